import PyProof.Rows.All
import Wide.All
import OpenK.AllK
import Wide.FinOn
import Lean
import PySem.Challenge.RW_xo0020_01
set_option Elab.async false
section
open PySem PySem.W PyProof.Rows
set_option Elab.async false
set_option maxRecDepth 100000
set_option maxHeartbeats 8000000
open_top Mine.hd for PySem.Challenge.rw_xo0020_01

end
section
open PySem PySem.W PyProof.Rows PySem.Calls PySem.Spec
set_option Elab.async false
set_option maxRecDepth 100000
namespace Mine

abbrev Sn := Addr → Option Obj
def Sn.Le (b b' : Sn) : Prop := ∀ a o, b a = some o → b' a = some o
theorem Sn.Le.refl (b : Sn) : b.Le b := fun _ _ e => e
theorem Sn.Le.trans {b b' b'' : Sn} (x : b.Le b') (y : b'.Le b'') : b.Le b'' := fun a o e => y a o (x a o e)
def Sn.put (b : Sn) (d : Addr) (o : Obj) : Sn := fun a => if a = d then some o else b a
theorem Sn.put_self (b : Sn) (d : Addr) (o : Obj) : b.put d o d = some o := by simp [Sn.put]
theorem Sn.put_le {b : Sn} {d : Addr} {o : Obj} (h : b d = none) : b.Le (b.put d o) := fun a x e => by
  unfold Sn.put
  by_cases q : a = d
  · subst q; rw [h] at e; cases e
  · rw [if_neg q]; exact e

structure Cx where
  h₀ : Heap
  b0 : Sn
  g : Heap
  ps : List Addr

abbrev Mu := List (Addr × Obj)
abbrev addrs (mu : Mu) : List Addr := mu.map (·.1)

/-- the frame at L: its locals are m; b: what is known and stands still; mu: the objects that this call may turn -/
structure St (C : Cx) (L : Addr) (b : Sn) (m : Str → Option Value) (mu : Mu) (h : Heap) : Prop where
  ns : h.Ns L m
  gL : C.g.get? L = none
  pin : ∀ a o, C.g.get? a = some o → a ∉ C.ps → h.get? a = some o
  b0b : C.b0.Le b
  base : ∀ a o, C.h₀.get? a = some o → C.b0 a = some o
  bin : ∀ a o, b a = some o → h.get? a = some o
  bL : b L = none
  bmu : ∀ p ∈ mu, b p.1 = none
  bnw : ∀ a o, b a = some o → C.b0 a = some o ∨ C.g.get? a = none
  muin : ∀ p ∈ mu, h.get? p.1 = some p.2
  muL : ∀ p ∈ mu, p.1 ≠ L
  mund : (addrs mu).Nodup
  mufr : ∀ p ∈ mu, p.1 ∈ C.ps ∨ C.g.get? p.1 = none
  psin : ∀ a ∈ C.ps, a ∈ addrs mu

theorem gone {h : Heap} {a : Addr} (ha : h.objs.size ≤ a) : h.get? a = none := by
  cases e : h.get? a with
  | none => rfl
  | some o => exact absurd (Heap.lt_size e) (Nat.not_lt.mpr ha)
theorem gone_self (h : Heap) : h.get? h.objs.size = none := gone (Nat.le_refl _)

section
variable {C : Cx} {L : Addr} {b : Sn} {m m' : Str → Option Value} {mu mu1 mu2 : Mu} {h h' : Heap} {d : Addr} {o o' : Obj}

theorem St.aliveL (S : St C L b m mu h) : ∃ o, h.get? L = some o := let ⟨o, _, _, e, _⟩ := S.ns; ⟨o, e⟩
theorem St.base' (S : St C L b m mu h) : ∀ a o, C.h₀.get? a = some o → h.get? a = some o := fun a o e => S.bin a o (S.b0b a o (S.base a o e))

theorem St.stay (S : St C L b m mu h) (k : ∀ a o, h.get? a = some o → h'.get? a = some o) : St C L b m mu h' :=
  { S with ns := S.ns.keeps k, pin := fun a o e n => k a o (S.pin a o e n), bin := fun a o e => k a o (S.bin a o e), muin := fun p hp => k _ _ (S.muin p hp) }

theorem St.loc (S : St C L b m mu h) (hn : h'.Ns L m') (k : ∀ a o, a ≠ L → h.get? a = some o → h'.get? a = some o) : St C L b m' mu h' :=
  { S with
    ns := hn
    pin := fun a o e n => k a o (fun q => by rw [q, S.gL] at e; cases e) (S.pin a o e n)
    bin := fun a o e => k a o (fun q => by rw [q, S.bL] at e; cases e) (S.bin a o e)
    muin := fun p hp => k _ _ (S.muL p hp) (S.muin p hp) }
theorem St.locS (S : St C L b m mu h) (hn : h'.Ns L m') (hs : Heap.SameBut L h h') : St C L b m' mu h' := S.loc hn fun a o n e => hs.extBut a o n e

theorem St.fresh (S : St C L b m mu h) (hd : h.get? d = none) : d ≠ L ∧ b d = none ∧ d ∉ addrs mu ∧ d ∉ C.ps ∧ C.g.get? d = none := by
  have hmu : d ∉ addrs mu := fun q => by
    obtain ⟨p, hp, rfl⟩ := List.mem_map.mp q
    rw [S.muin p hp] at hd; cases hd
  have hps : d ∉ C.ps := fun q => hmu (S.psin d q)
  refine ⟨fun q => ?_, ?_, hmu, hps, ?_⟩
  · obtain ⟨o, e⟩ := S.aliveL; rw [q, e] at hd; cases hd
  · cases e : b d with
    | none => rfl
    | some o => rw [S.bin d o e] at hd; cases hd
  · cases e : C.g.get? d with
    | none => rfl
    | some o => rw [S.pin d o e hps] at hd; cases hd

theorem St.new (S : St C L b m mu h) (hd : h.get? d = none) (ho : h'.get? d = some o) (k : ∀ a o, h.get? a = some o → h'.get? a = some o) : St C L b m ((d, o) :: mu) h' := by
  obtain ⟨f1, f2, f3, f4, f5⟩ := S.fresh hd
  have S' := S.stay k
  exact { S' with
    bmu := fun p hp => by rcases List.mem_cons.mp hp with rfl | hp; exact f2; exact S.bmu p hp
    muin := fun p hp => by rcases List.mem_cons.mp hp with rfl | hp; exact ho; exact S'.muin p hp
    muL := fun p hp => by rcases List.mem_cons.mp hp with rfl | hp; exact f1; exact S.muL p hp
    mund := List.nodup_cons.mpr ⟨f3, S.mund⟩
    mufr := fun p hp => by rcases List.mem_cons.mp hp with rfl | hp; exact .inr f5; exact S.mufr p hp
    psin := fun a ha => List.mem_cons_of_mem _ (S.psin a ha) }
theorem St.push (S : St C L b m mu h) (o : Obj) (hf : o.isFreed = false := by rfl) : St C L b m ((h.objs.size, o) :: mu) (h.push o) :=
  S.new (gone_self h) (Heap.get?_push_size _ hf) fun _ _ e => Heap.get?_push_of_some _ e

theorem nodup_mid {mu1 mu2 : Mu} {d : Addr} {o : Obj} (h : (addrs (mu1 ++ (d, o) :: mu2)).Nodup) : (∀ p ∈ mu1 ++ mu2, p.1 ≠ d) ∧ (addrs (mu1 ++ mu2)).Nodup := by
  simp only [List.map_append, List.map_cons] at h
  have h2 := List.nodup_append.mp h
  have h3 := List.nodup_cons.mp h2.2.1
  refine ⟨fun p hp q => ?_, ?_⟩
  · rcases List.mem_append.mp hp with h1 | h1
    · exact h2.2.2 p.1 (List.mem_map_of_mem h1) d (List.mem_cons_self ..) q
    · exact h3.1 (q ▸ List.mem_map_of_mem h1)
  · simp only [List.map_append]
    exact List.nodup_append.mpr ⟨h2.1, h3.2, fun a ha b hb => h2.2.2 a ha b (List.mem_cons_of_mem _ hb)⟩

theorem St.mut (S : St C L b m (mu1 ++ (d, o) :: mu2) h) (ho : h'.get? d = some o') (k : ∀ a x, a ≠ d → h.get? a = some x → h'.get? a = some x) : St C L b m (mu1 ++ (d, o') :: mu2) h' := by
  have hd : (d, o) ∈ mu1 ++ (d, o) :: mu2 := by simp
  have hdL : d ≠ L := S.muL _ hd
  obtain ⟨hne, _⟩ := nodup_mid S.mund
  have sub : ∀ p, p ∈ mu1 ++ (d, o') :: mu2 → p = (d, o') ∨ p ∈ mu1 ++ mu2 := fun p hp => by
    rcases List.mem_append.mp hp with h1 | h1
    · exact .inr (List.mem_append_left _ h1)
    · rcases List.mem_cons.mp h1 with h1 | h1
      · exact .inl h1
      · exact .inr (List.mem_append_right _ h1)
  have sup : ∀ p, p ∈ mu1 ++ mu2 → p ∈ mu1 ++ (d, o) :: mu2 := fun p hp => by
    rcases List.mem_append.mp hp with h1 | h1
    · exact List.mem_append_left _ h1
    · exact List.mem_append_right _ (List.mem_cons_of_mem _ h1)
  have ea : addrs (mu1 ++ (d, o') :: mu2) = addrs (mu1 ++ (d, o) :: mu2) := by simp
  exact { S with
    ns := S.ns.at' fun x e => k _ _ (Ne.symm hdL) e
    pin := fun a x e n => k a x (fun q => by
      subst q
      rcases S.mufr _ hd with h1 | h1
      · exact n h1
      · rw [h1] at e; cases e) (S.pin a x e n)
    bin := fun a x e => k a x (fun q => by subst q; rw [S.bmu _ hd] at e; cases e) (S.bin a x e)
    bmu := fun p hp => by rcases sub p hp with rfl | h1; exact S.bmu (d, o) hd; exact S.bmu p (sup p h1)
    muin := fun p hp => by
      rcases sub p hp with rfl | h1
      · exact ho
      · exact k _ _ (hne p h1) (S.muin p (sup p h1))
    muL := fun p hp => by rcases sub p hp with rfl | h1; exact hdL; exact S.muL p (sup p h1)
    mund := by rw [ea]; exact S.mund
    mufr := fun p hp => by rcases sub p hp with rfl | h1; exact S.mufr (d, o) hd; exact S.mufr p (sup p h1)
    psin := by rw [ea]; exact S.psin }

theorem St.drop (S : St C L b m (mu1 ++ (d, o) :: mu2) h) (hd : d ∉ C.ps) : St C L b m (mu1 ++ mu2) h := by
  obtain ⟨hne, hnd⟩ := nodup_mid S.mund
  have sup : ∀ p, p ∈ mu1 ++ mu2 → p ∈ mu1 ++ (d, o) :: mu2 := fun p hp => by
    rcases List.mem_append.mp hp with h1 | h1
    · exact List.mem_append_left _ h1
    · exact List.mem_append_right _ (List.mem_cons_of_mem _ h1)
  exact { S with
    bmu := fun p hp => S.bmu p (sup p hp), muin := fun p hp => S.muin p (sup p hp), muL := fun p hp => S.muL p (sup p hp), mund := hnd, mufr := fun p hp => S.mufr p (sup p hp)
    psin := fun a ha => by
      have := S.psin a ha
      obtain ⟨p, hp, rfl⟩ := List.mem_map.mp this
      rcases List.mem_append.mp hp with h1 | h1
      · exact List.mem_map_of_mem (List.mem_append_left _ h1)
      · rcases List.mem_cons.mp h1 with rfl | h1
        · exact absurd ha hd
        · exact List.mem_map_of_mem (List.mem_append_right _ h1) }
theorem St.freeze (S : St C L b m (mu1 ++ (d, o) :: mu2) h) (hd : d ∉ C.ps) : St C L (b.put d o) m (mu1 ++ mu2) h ∧ b.Le (b.put d o) := by
  have hm : (d, o) ∈ mu1 ++ (d, o) :: mu2 := by simp
  have S' := S.drop hd
  obtain ⟨hne, _⟩ := nodup_mid S.mund
  have hb := S.bmu _ hm
  refine ⟨{ S' with b0b := S.b0b.trans (Sn.put_le hb), bin := ?_, bL := ?_, bmu := ?_, bnw := ?_ }, Sn.put_le hb⟩
  · intro a x e
    unfold Sn.put at e
    by_cases q : a = d
    · rw [if_pos q] at e; cases e; rw [q]; exact S.muin _ hm
    · rw [if_neg q] at e; exact S.bin a x e
  · unfold Sn.put; rw [if_neg (Ne.symm (S.muL _ hm))]; exact S.bL
  · intro p hp; unfold Sn.put; rw [if_neg (hne p hp)]; exact S'.bmu p hp
  · intro a x e
    unfold Sn.put at e
    by_cases q : a = d
    · rw [if_pos q] at e; cases e
      rcases S.mufr _ hm with h1 | h1
      · exact absurd h1 hd
      · exact .inr (q ▸ h1)
    · rw [if_neg q] at e; exact S.bnw a x e
theorem St.freeze0 (S : St C L b m ((d, o) :: mu) h) (hd : d ∉ C.ps) : St C L (b.put d o) m mu h ∧ b.Le (b.put d o) := St.freeze (mu1 := []) S hd
theorem St.drop0 (S : St C L b m ((d, o) :: mu) h) (hd : d ∉ C.ps) : St C L b m mu h := St.drop (mu1 := []) S hd

theorem St.perm {mu' : Mu} (S : St C L b m mu h) (p : mu.Perm mu') : St C L b m mu' h :=
  { S with
    bmu := fun q hq => S.bmu q (p.mem_iff.mpr hq), muin := fun q hq => S.muin q (p.mem_iff.mpr hq), muL := fun q hq => S.muL q (p.mem_iff.mpr hq)
    mund := (p.map _).nodup_iff.mp S.mund, mufr := fun q hq => S.mufr q (p.mem_iff.mpr hq), psin := fun a ha => ((p.map _).mem_iff).mp (S.psin a ha) }

/-- more is known: what lay nowhere ahead -/
theorem St.grow {b' : Sn} (S : St C L b m mu h) (hb : b.Le b') (hin : ∀ a o, b' a = some o → h'.get? a = some o) (hn : ∀ a o, b' a = some o → b a = some o ∨ h.get? a = none)
    (k : ∀ a o, h.get? a = some o → h'.get? a = some o) : St C L b' m mu h' := by
  have S' := S.stay k
  have off : ∀ a, (∃ o, h.get? a = some o) → b a = none → b' a = none := fun a ⟨o, e⟩ hba => by
    cases q : b' a with
    | none => rfl
    | some x =>
      rcases hn a x q with h1 | h1
      · rw [hba] at h1; cases h1
      · rw [e] at h1; cases h1
  exact { S' with
    b0b := S.b0b.trans hb, bin := hin, bL := off L S.aliveL S.bL, bmu := fun p hp => off p.1 ⟨_, S.muin p hp⟩ (S.bmu p hp)
    bnw := fun a x e => by
      rcases hn a x e with h1 | h1
      · exact S.bnw a x h1
      · exact .inr (S.fresh h1).2.2.2.2 }

theorem St.enter {mv mr : Mu} (S : St C L b m (mv ++ mr) h) {L' : Addr} (hL : h.get? L' = none) (hn : h'.Ns L' m') (k : ∀ a o, h.get? a = some o → h'.get? a = some o) :
    St ⟨C.h₀, b, h, addrs mv⟩ L' b m' mv h' where
  ns := hn
  gL := hL
  pin := fun a o e _ => k a o e
  b0b := Sn.Le.refl _
  base := fun a o e => S.b0b a o (S.base a o e)
  bin := fun a o e => k a o (S.bin a o e)
  bL := (S.fresh hL).2.1
  bmu := fun p hp => S.bmu p (List.mem_append_left _ hp)
  bnw := fun _ _ e => .inl e
  muin := fun p hp => k _ _ (S.muin p (List.mem_append_left _ hp))
  muL := fun p hp q => by have := S.muin p (List.mem_append_left _ hp); rw [q, hL] at this; cases this
  mund := by have := S.mund; simp only [addrs, List.map_append] at this; exact (List.nodup_append.mp this).1
  mufr := fun p hp => .inl (List.mem_map_of_mem hp)
  psin := fun _ ha => ha

theorem St.back {mv mr mv' : Mu} {L' : Addr} {b' : Sn} (S : St C L b m (mv ++ mr) h) (S' : St ⟨C.h₀, b, h, addrs mv⟩ L' b' m' mv' h') : St C L b' m (mv' ++ mr) h' := by
  have nd := S.mund
  simp only [addrs, List.map_append] at nd
  have nd' := List.nodup_append.mp nd
  have Lmv : L ∉ addrs mv := fun q => by
    obtain ⟨p, hp, e⟩ := List.mem_map.mp q
    exact S.muL p (List.mem_append_left _ hp) e
  have keepL : ∀ o, h.get? L = some o → h'.get? L = some o := fun o e => S'.pin L o e Lmv
  have rmv : ∀ p ∈ mr, p.1 ∉ addrs mv := fun p hp q => by
    obtain ⟨r, hr, e⟩ := List.mem_map.mp q
    exact nd'.2.2 r.1 (List.mem_map_of_mem hr) p.1 (List.mem_map_of_mem hp) e
  have off : ∀ a, (∃ o, h.get? a = some o) → b a = none → b' a = none := fun a ⟨o, e⟩ hba => by
    cases q : b' a with
    | none => rfl
    | some x =>
      rcases S'.bnw a x q with h1 | h1
      · simp only at h1; rw [hba] at h1; cases h1
      · simp only at h1; rw [e] at h1; cases h1
  have cg : ∀ a o, C.g.get? a = some o → a ∉ C.ps → a ∉ addrs mv := fun a o e n q => by
    obtain ⟨p, hp, rfl⟩ := List.mem_map.mp q
    rcases S.mufr p (List.mem_append_left _ hp) with h1 | h1
    · exact n h1
    · rw [h1] at e; cases e
  refine { ns := S.ns.at' keepL, gL := S.gL, pin := ?_, b0b := S.b0b.trans S'.b0b, base := S.base, bin := S'.bin, bL := off L S.aliveL S.bL, bmu := ?_, bnw := ?_, muin := ?_, muL := ?_, mund := ?_, mufr := ?_, psin := ?_ }
  · intro a o e n
    exact S'.pin a o (S.pin a o e n) (cg a o e n)
  · intro p hp
    rcases List.mem_append.mp hp with h1 | h1
    · exact S'.bmu p h1
    · exact off p.1 ⟨_, S.muin p (List.mem_append_right _ h1)⟩ (S.bmu p (List.mem_append_right _ h1))
  · intro a o e
    rcases S'.bnw a o e with h1 | h1
    · exact S.bnw a o h1
    · exact .inr (S.fresh h1).2.2.2.2
  · intro p hp
    rcases List.mem_append.mp hp with h1 | h1
    · exact S'.muin p h1
    · exact S'.pin _ _ (S.muin p (List.mem_append_right _ h1)) (rmv p h1)
  · intro p hp
    rcases List.mem_append.mp hp with h1 | h1
    · intro q
      rcases S'.mufr p h1 with h2 | h2
      · exact Lmv (q ▸ h2)
      · obtain ⟨o, e⟩ := S.aliveL
        simp only at h2
        rw [q, e] at h2; cases h2
    · exact S.muL p (List.mem_append_right _ h1)
  · simp only [addrs, List.map_append]
    refine List.nodup_append.mpr ⟨S'.mund, nd'.2.1, fun a ha c hc q => ?_⟩
    subst q
    obtain ⟨p, hp, rfl⟩ := List.mem_map.mp ha
    obtain ⟨r, hr, e⟩ := List.mem_map.mp hc
    rcases S'.mufr p hp with h2 | h2
    · exact rmv r hr (by rw [e]; exact h2)
    · have := S.muin r (List.mem_append_right _ hr)
      simp only at h2
      rw [e, h2] at this; cases this
  · intro p hp
    rcases List.mem_append.mp hp with h1 | h1
    · rcases S'.mufr p h1 with h2 | h2
      · obtain ⟨r, hr, e⟩ := List.mem_map.mp h2
        have := S.mufr r (List.mem_append_left _ hr)
        rw [e] at this; exact this
      · exact .inr (S.fresh h2).2.2.2.2
    · exact S.mufr p (List.mem_append_right _ h1)
  · intro a ha
    obtain ⟨p, hp, rfl⟩ := List.mem_map.mp (S.psin a ha)
    simp only [addrs, List.map_append]
    rcases List.mem_append.mp hp with h1 | h1
    · exact List.mem_append_left _ (S'.psin p.1 (List.mem_map_of_mem h1))
    · exact List.mem_append_right _ (List.mem_map_of_mem h1)
end
end Mine

end
section
open PySem PySem.W PyProof.Rows PySem.Calls PySem.Spec
set_option Elab.async false
set_option maxRecDepth 100000
set_option linter.unusedVariables false
namespace Mine

theorem filled : PySem.Challenge.rw_xo0020_01 = PySem.Challenge.rw_xo0020_01 ∧ Mine.hd.heap_39 = Mine.hd.heap_39 := by k_fill; exact ⟨rfl, rfl⟩

structure Glb (w : World) (mg mb : Str → Option Value) (h₀ : Heap) : Prop where
  X : (hd.heap_39 w.params).In h₀
  T : ∃ p loose mean, Top p loose mean mg mb h₀

abbrev NE : Value → Shared → Prop := fun _ _ => False

section
variable {prog : Program} {w : World} {A : Around} {E : Value → Shared → Prop} {C : Cx} {L : Addr} {b : Sn} {m mg mb : Str → Option Value} {mu : Mu}
  {h : Heap} {gs : Array GenState} {dr : Drawn} {tk : Nat} {os : OsState} {env : Env} {x : Str} {pos : Pos} {v : Value}

theorem Glb.at (G : Glb w mg mb C.h₀) (S : St C L b m mu h) : (hd.heap_39 w.params).In h := G.X.keeps S.base'

-- names
theorem nmL {Q : Value → Shared → Prop} (S : St C env.locals b m mu h) (hv : m x = some v) (q : Q v ⟨h, gs, dr, tk, os⟩)
    (hk : env.scope.kind = .function := by rfl) (hx : env.kindOf x = some .local := by rfl) (hd : (x == ("__debug__" : Str)) = false := by decide) :
    wpAny (model prog w) A (eval (.Name x pos) env) Q E ⟨h, gs, dr, tk, os⟩ := wpAny_Name (wpAny_loadName_local hk hx S.ns hv q) hd
theorem ldL {Q : Value → Shared → Prop} (S : St C env.locals b m mu h) (hv : m x = some v) (q : Q v ⟨h, gs, dr, tk, os⟩)
    (hk : env.scope.kind = .function := by rfl) (hx : env.kindOf x = some .local := by rfl) :
    wpAny (model prog w) A (loadName env x) Q E ⟨h, gs, dr, tk, os⟩ := wpAny_loadName_local hk hx S.ns hv q
theorem nmG {Q : Value → Shared → Prop} (G : Glb w mg mb C.h₀) (S : St C L b m mu h) (e : nsIn (hd.heap_39 w.params) mainGlobals x = some (some v)) (q : Q v ⟨h, gs, dr, tk, os⟩)
    (hg : env.globals = mainGlobals := by rfl) (hk : env.scope.kind = .function := by rfl) (hx : env.kindOf x = some .globalImplicit := by rfl) (hd : (x == ("__debug__" : Str)) = false := by decide) :
    wpAny (model prog w) A (eval (.Name x pos) env) Q E ⟨h, gs, dr, tk, os⟩ := by
  obtain ⟨p, loose, mean, T⟩ := G.T
  exact Name_function_global hk hx (loadGlobal_global (env := env) (by rw [hg]; exact T.g.keeps S.base') (mg_of G.X T.g e) q) hd
theorem nmB {Q : Value → Shared → Prop} (G : Glb w mg mb C.h₀) (S : St C L b m mu h) (e : nsIn (hd.heap_39 w.params) mainGlobals x = some none) (hv : bootBuiltins x = some v) (q : Q v ⟨h, gs, dr, tk, os⟩)
    (hn : x ≠ "__name__" := by decide) (hg : env.globals = mainGlobals := by rfl) (hb : env.builtins = builtinsNs := by rfl) (hk : env.scope.kind = .function := by rfl) (hx : env.kindOf x = some .globalImplicit := by rfl) (hd : (x == ("__debug__" : Str)) = false := by decide) :
    wpAny (model prog w) A (eval (.Name x pos) env) Q E ⟨h, gs, dr, tk, os⟩ := by
  obtain ⟨p, loose, mean, T⟩ := G.T
  exact Name_function_global hk hx (loadGlobal_builtin (env := env) (by rw [hg]; exact T.g.keeps S.base') (mg_none_of G.X T.g e) (by rw [hb]; exact T.b.keeps S.base') ((T.builtins x hn).trans hv) q) hd
theorem nmC {Q : Value → Shared → Prop} {c : Addr} (hc : env.cells.lookup x = some c) (ho : h.IsCell c (some v)) (q : Q v ⟨h, gs, dr, tk, os⟩)
    (hk : env.scope.kind = .function := by rfl) (hx : env.kindOf x = some .cell := by rfl) (hd : (x == ("__debug__" : Str)) = false := by decide) :
    wpAny (model prog w) A (eval (.Name x pos) env) Q E ⟨h, gs, dr, tk, os⟩ := wpAny_Name (wpAny_loadName_cell hk hx hc ho q) hd
theorem nmF {Q : Value → Shared → Prop} {c : Addr} (hc : env.cells.lookup x = some c) (ho : h.IsCell c (some v)) (q : Q v ⟨h, gs, dr, tk, os⟩)
    (hk : env.scope.kind = .function := by rfl) (hx : env.kindOf x = some .free := by rfl) (hd : (x == ("__debug__" : Str)) = false := by decide) (hn : (x == ("__classdict__" : Str)) = false := by decide) :
    wpAny (model prog w) A (eval (.Name x pos) env) Q E ⟨h, gs, dr, tk, os⟩ := wpAny_Name (wpAny_loadName_free hk hx hc ho q hn) hd

abbrev upd (m : Str → Option Value) (x : Str) (v : Value) : Str → Option Value := fun y => if y = x then some v else m y
theorem stL {Q : Unit → Shared → Prop} (S : St C env.locals b m mu h) (q : ∀ h' tk', St C env.locals b (upd m x v) mu h' → Q () ⟨h', gs, dr, tk', os⟩)
    (hx : env.kindOf x = some .local := by rfl) (hp : (env.scope.kind == .class || (env.scope.kind == .module && env.locals != env.globals)) = false := by rfl) :
    wpAny (model prog w) A (storeName env x v) Q E ⟨h, gs, dr, tk, os⟩ :=
  wpAny_storeName_local hx S.ns (fun h' hn hs => q h' _ (S.locS hn hs)) hp

-- constants
theorem cInt {i : Int} {k : Nat} {Q : Value → Shared → Prop} (q : ∀ t tk', Q (.int i t) ⟨h, gs, dr, tk', os⟩) : wpAny (model prog w) A (eval (.Constant (.int i) k pos) env) Q E ⟨h, gs, dr, tk, os⟩ := wpAny_Constant_int (q _ _)
theorem cStr {i : Str} {k : Nat} {Q : Value → Shared → Prop} (q : ∀ t tk', Q (.str i t) ⟨h, gs, dr, tk', os⟩) : wpAny (model prog w) A (eval (.Constant (.str i) k pos) env) Q E ⟨h, gs, dr, tk, os⟩ := Calls.Constant_str (q _ _)

-- a call of a def of the text
abbrev retOf (fl : Flow) : Value := match fl with | .ret v => v | _ => .none
def Back (C : Cx) (L : Addr) (b : Sn) (m : Str → Option Value) (mr : Mu) (C' : Cx) (L' : Addr) (gs : Array GenState) (dr : Drawn) (os : OsState) (Q : Value → Shared → Prop) (v : Value) (s' : Shared) : Prop :=
  ∃ h' tk' b' m' mv', s' = ⟨h', gs, dr, tk', os⟩ ∧ St C' L' b' m' mv' h' ∧ (St C L b' m (mv' ++ mr) h' → Q v ⟨h', gs, dr, tk', os⟩)
theorem Back.intro {C : Cx} {L : Addr} {b : Sn} {m : Str → Option Value} {mr : Mu} {C' : Cx} {L' : Addr} {gs : Array GenState} {dr : Drawn} {os : OsState} {Q : Value → Shared → Prop} {v : Value}
    {h' : Heap} {tk' : Nat} {b' : Sn} {m' : Str → Option Value} {mv' : Mu} (S : St C' L' b' m' mv' h') (q : St C L b' m (mv' ++ mr) h' → Q v ⟨h', gs, dr, tk', os⟩) :
    Back C L b m mr C' L' gs dr os Q v ⟨h', gs, dr, tk', os⟩ := ⟨h', tk', b', m', mv', rfl, S, q⟩

theorem own_call {mv mr : Mu} {Q : Value → Shared → Prop} {name qual : Str} {params : Arguments} {body : List Stmt} {scope : Scope} {dV kV doc pm cdv ct oc : Value} {an od : Option Addr} {osl : Array (Option Value)}
    {f : Addr} {args : List Value} {kw : List (Str × Value)} {binds : List (Str × Value)}
    (G : Glb w mg mb C.h₀) (S : St C L b m (mv ++ mr) h) (hroom : A.depth < recursionLimit)
    (ho : (hd.heap_39 w.params).lookup f = some ⟨oc, od, .func (fnOf name qual params body scope dV kV doc pm an cdv ct), osl⟩) (hcd : codeIn (hd.heap_39 w.params) cdv qual = true)
    (hbind : BindsTo ⟨h, gs, dr, tk, os⟩ (fnOf name qual params body scope dV kV doc pm an cdv ct) ⟨args, kw⟩ binds)
    (q : ∀ L' h₁ tk₁, St ⟨C.h₀, b, h, addrs mv⟩ L' b (fun y => binds.reverse.lookup y) mv h₁ →
      wpAny (model prog w) (A.deeper (envOf qual scope L' f cdv)) (execs body (envOf qual scope L' f cdv))
        (fun fl s' => Back C L b m mr ⟨C.h₀, b, h, addrs mv⟩ L' gs dr os Q (retOf fl) s') NE ⟨h₁, gs, dr, tk₁, os⟩)
    (hloc : (binds.all fun x => decide (scope.names.lookup x.1 = some .local)) = true := by rfl)
    (hcell : ∀ x ∈ scope.names, x.2 ≠ .cell := by decide) (hco : scope.isCoroutine = false := by rfl) (hgen : scope.isGenerator = false := by rfl) (hk : scope.kind = .function := by rfl) :
    wpAny (model prog w) A (call (.ref f) args kw) Q E ⟨h, gs, dr, tk, os⟩ := by
  obtain ⟨p, loose, mean, T⟩ := G.T
  have X := G.at S
  refine wpAny_call (codeAny_call_def (fd := fnOf name qual params body scope dV kV doc pm an cdv ct) (body := body) (binds := binds) hroom (X _ _ ho) rfl (T.nolimit.keeps S.base') (codeRec_of X hcd) rfl hbind hcell (locs hloc) (fun h₁ hns hk₁ => ?_) hco hgen hk)
  refine wpAny_mono (q _ h₁ _ (S.enter (gone_self h) hns hk₁)) (fun fl s' hb => ?_) (fun _ _ e => e.elim)
  obtain ⟨h', tk', b', m', mv', rfl, S', k⟩ := hb
  exact k (S.back S')
end
end Mine

end
section
open PySem PySem.W PyProof.Rows PySem.Calls PySem.Spec
set_option Elab.async false
set_option maxRecDepth 100000
set_option linter.unusedVariables false
namespace Mine

def LstB (b : Sn) (a : Addr) (vs : List Value) : Prop := ∃ o, b a = some o ∧ o.cls = .type "list" ∧ ∃ n, o.data = .seq vs.toArray n
def TupB (b : Sn) (a : Addr) (vs : List Value) : Prop := ∃ o, b a = some o ∧ o.cls = .type "tuple" ∧ ∃ n, o.data = .seq vs.toArray n
theorem LstB.le {b b' : Sn} {a : Addr} {vs : List Value} (x : LstB b a vs) (l : b.Le b') : LstB b' a vs := let ⟨o, e, r⟩ := x; ⟨o, l _ _ e, r⟩
theorem TupB.le {b b' : Sn} {a : Addr} {vs : List Value} (x : TupB b a vs) (l : b.Le b') : TupB b' a vs := let ⟨o, e, r⟩ := x; ⟨o, l _ _ e, r⟩
def DicB (prog : Program) (w : World) (b : Sn) (d : Addr) (kvs : List (Str × Value)) : Prop := (d == sysModules) = false ∧ ∃ o, b d = some o ∧ o.IsDictOf (strKind prog w) kvs
theorem DicB.le {prog : Program} {w : World} {b b' : Sn} {a : Addr} {kvs} (x : DicB prog w b a kvs) (l : b.Le b') : DicB prog w b' a kvs := let ⟨n, o, e, r⟩ := x; ⟨n, o, l _ _ e, r⟩
abbrev lstO (vs : List Value) (n : Nat) : Obj := { cls := .type "list", data := .seq vs.toArray n }
abbrev tupO (vs : List Value) (n : Nat) : Obj := { cls := .type "tuple", data := .seq vs.toArray n }

section
variable {C : Cx} {L : Addr} {b : Sn} {m : Str → Option Value} {mu : Mu} {h : Heap} {a : Addr} {vs : List Value}
theorem LstB.at (x : LstB b a vs) (S : St C L b m mu h) : h.IsList a vs.toArray := let ⟨o, e, c, n, d⟩ := x; ⟨o, S.bin _ _ e, c, n, d⟩
theorem TupB.at (x : TupB b a vs) (S : St C L b m mu h) : h.IsTuple a vs.toArray := let ⟨o, e, c, n, d⟩ := x; ⟨o, S.bin _ _ e, c, n, d⟩
theorem DicB.at {prog : Program} {w : World} {kvs} (x : DicB prog w b a kvs) (S : St C L b m mu h) : h.DictOf (strKind prog w) a kvs := let ⟨_, o, e, r⟩ := x; Heap.dictOf_iff.mpr ⟨o, S.bin _ _ e, r⟩
theorem LstB.put {n : Nat} : LstB (b.put a (lstO vs n)) a vs := ⟨_, Sn.put_self .., rfl, n, rfl⟩
theorem TupB.put {n : Nat} : TupB (b.put a (tupO vs n)) a vs := ⟨_, Sn.put_self .., rfl, n, rfl⟩
theorem DicB.put {prog : Program} {w : World} {kvs} {o : Obj} (n : (a == sysModules) = false) (x : o.IsDictOf (strKind prog w) kvs) : DicB prog w (b.put a o) a kvs := ⟨n, _, Sn.put_self .., x⟩
end

abbrev forR (prog : Program) (w : World) (A : Around) (env : Env) (E : Value → Shared → Prop) (Q : Flow → Shared → Prop) : Result → Shared → Prop :=
  fun r s' => match r with | .ok f => Q f s' | .error e => cameBackBy (model prog w) A env E e s'

/-- a turn's end -/
def TurnEnd (C : Cx) (L : Addr) (I : Addr) (io : Obj) (b₁ : Sn) (Jn : (Str → Option Value) → Mu → Sn → Prop) (gs : Array GenState) (dr : Drawn) (os : OsState) (Q : Flow → Shared → Prop) (fl : Flow) (s' : Shared) : Prop :=
  match fl with
  | .ret v => Q (.ret v) s'
  | .brk => Q .next s'
  | _ => ∃ h₂ tk₂ m₂ mu₂ b₂, s' = ⟨h₂, gs, dr, tk₂, os⟩ ∧ St C L b₂ m₂ ((I, io) :: mu₂) h₂ ∧ b₁.Le b₂ ∧ Jn m₂ mu₂ b₂

section
variable {prog : Program} {w : World} {A : Around} {E : Value → Shared → Prop} {C : Cx} {L : Addr} {b : Sn} {m mg mb : Str → Option Value} {mu : Mu}
  {h : Heap} {gs : Array GenState} {dr : Drawn} {tk : Nat} {os : OsState} {env : Env} {x : Str} {pos : Pos} {v : Value}

theorem TurnEnd.next {I : Addr} {b₁ b₂ : Sn} {Jn : (Str → Option Value) → Mu → Sn → Prop} {Q : Flow → Shared → Prop} {h₂ : Heap} {tk₂ : Nat} {io : Obj} {m₂ : Str → Option Value} {mu₂ : Mu}
    (S : St C L b₂ m₂ ((I, io) :: mu₂) h₂) (l : b₁.Le b₂) (j : Jn m₂ mu₂ b₂) : TurnEnd C L I io b₁ Jn gs dr os Q .next ⟨h₂, gs, dr, tk₂, os⟩ := ⟨_, _, _, _, _, rfl, S, l, j⟩
theorem TurnEnd.cont {I : Addr} {b₁ b₂ : Sn} {Jn : (Str → Option Value) → Mu → Sn → Prop} {Q : Flow → Shared → Prop} {h₂ : Heap} {tk₂ : Nat} {io : Obj} {m₂ : Str → Option Value} {mu₂ : Mu}
    (S : St C L b₂ m₂ ((I, io) :: mu₂) h₂) (l : b₁.Le b₂) (j : Jn m₂ mu₂ b₂) : TurnEnd C L I io b₁ Jn gs dr os Q .cont ⟨h₂, gs, dr, tk₂, os⟩ := ⟨_, _, _, _, _, rfl, S, l, j⟩

theorem for_walk {Q : Flow → Shared → Prop} {px : Pos} {body : List Stmt} {I : Addr} {io : Obj} {fp : List Addr} {n : Nat} {P : Nat → Value → Prop} {Wst : Nat → Heap → Prop}
    (W : Walks prog w A I fp [I] n P Wst) (S : St C env.locals b m ((I, io) :: mu) h) (hst : Wst 0 h) (hal : ∀ i h, Wst i h → ∃ o, h.get? I = some o) (hfp : ∀ a ∈ fp, a = I ∨ ∃ o, b a = some o) (hI : I ∉ C.ps)
    (J : Nat → (Str → Option Value) → Mu → Sn → Prop) (h0 : J 0 m mu b)
    (turn : ∀ i v io₁ m₁ mu₁ b₁ h₁ tk₁, i < n → P i v → J i m₁ mu₁ b₁ → b.Le b₁ → St C env.locals b₁ (upd m₁ x v) ((I, io₁) :: mu₁) h₁ →
      wpAny (model prog w) A (execs body env) (TurnEnd C env.locals I io₁ b₁ (J (i + 1)) gs dr os Q) NE ⟨h₁, gs, dr, tk₁, os⟩)
    (done : ∀ m₁ mu₁ b₁ h₁ tk₁, J n m₁ mu₁ b₁ → b.Le b₁ → St C env.locals b₁ m₁ mu₁ h₁ → Q .next ⟨h₁, gs, dr, tk₁, os⟩)
    (hx : env.kindOf x = some .local := by rfl) (hp : (env.scope.kind == .class || (env.scope.kind == .module && env.locals != env.globals)) = false := by rfl) :
    codeAny (model prog w) A (.forLoop (.Name x px) (.ref I) body [] env) (forR prog w A env E Q) ⟨h, gs, dr, tk, os⟩ := by
  refine codeAny_forLoop_any
    (fun k s' => ∃ h' tk' io' m' mu' b' i, s' = ⟨h', gs, dr, tk', os⟩ ∧ Wst i h' ∧ St C env.locals b' m' ((I, io') :: mu') h' ∧ b.Le b' ∧ J i m' mu' b' ∧ i ≤ n ∧ k = n + 1 - i) ?_ (n + 1)
    ⟨h, tk, io, m, mu, b, 0, rfl, hst, S, Sn.Le.refl _, h0, Nat.zero_le _, rfl⟩
  rintro k s' ⟨h', tk', io', m', mu', b', i, rfl, hst', S', hb', hJ, hi, rfl⟩
  by_cases hlt : i < n
  · refine W.item i _ _ _ hlt hst' fun v h₁ tk₁ hP hst₁ hk₁ => ?_
    obtain ⟨io₁, hio₁⟩ := hal _ _ hst₁
    have S₁ : St C env.locals b' m' ((I, io₁) :: mu') h₁ := St.mut (mu1 := []) S' hio₁ fun a o n e => hk₁ a o (by simpa using n) e
    show wpAny _ A (pure ()) _ _ _
    refine wpAny_pure (wpAny_assign_Name (wpAny_storeName_local hx S₁.ns (fun h₂ hn₂ hs₂ => ?_) hp))
    have S₂ := S₁.locS hn₂ hs₂
    have hst₂ : Wst (i + 1) h₂ := W.frame _ _ _ hst₁ fun a ha o e => (hs₂.2 a fun q => by
      subst q
      rcases hfp _ ha with h1 | ⟨o', h1⟩
      · exact S₁.muL _ (List.mem_cons_self ..) h1.symm
      · have := S'.bL; rw [hb' _ _ h1] at this; cases this).trans e
    refine wpAny_mono (turn i v io₁ m' mu' b' h₂ _ hlt hP hJ hb' S₂) (fun fl s₃ he => ?_) fun _ _ e => e.elim
    have fin : (∃ h₂ tk₂ m₂ mu₂ b₂, s₃ = ⟨h₂, gs, dr, tk₂, os⟩ ∧ St C env.locals b₂ m₂ ((I, io₁) :: mu₂) h₂ ∧ b'.Le b₂ ∧ J (i + 1) m₂ mu₂ b₂) →
        ∃ m, m < n + 1 - i ∧ ∃ h' tk' io' m' mu' b' i, s₃ = ⟨h', gs, dr, tk', os⟩ ∧ Wst i h' ∧ St C env.locals b' m' ((I, io') :: mu') h' ∧ b.Le b' ∧ J i m' mu' b' ∧ i ≤ n ∧ m = n + 1 - i := by
      rintro ⟨h₃, tk₃, m₃, mu₃, b₃, rfl, S₃, l₃, J₃⟩
      refine ⟨n + 1 - (i + 1), by omega, h₃, tk₃, io₁, m₃, mu₃, b₃, i + 1, rfl, W.frame _ _ _ hst₁ fun a ha o e => ?_, S₃, hb'.trans l₃, J₃, hlt, rfl⟩
      rcases hfp _ ha with rfl | ⟨o', h1⟩
      · rw [hio₁] at e; cases e; exact S₃.muin _ (List.mem_cons_self ..)
      · have e1 := S₁.bin _ _ (hb' _ _ h1)
        rw [e1] at e; cases e
        exact S₃.bin _ _ (l₃ _ _ (hb' _ _ h1))
    cases fl with
    | ret v => exact he
    | brk => exact he
    | next => exact fin he
    | cont => exact fin he
  · have hin : i = n := by omega
    subst hin
    refine W.done _ _ _ hst' fun h₁ tk₁ hk₁ => wpAny_execs_nil ?_
    have S₀ := S'.drop0 hI
    have hne : ∀ p ∈ mu', p.1 ≠ I := (nodup_mid (mu1 := []) S'.mund).1
    have hIL := S'.muL _ (List.mem_cons_self ..)
    have hIb := S'.bmu _ (List.mem_cons_self ..)
    refine done m' mu' b' h₁ tk₁ hJ hb' { S₀ with ns := S₀.ns.at' fun o e => hk₁ _ o (by simpa using Ne.symm hIL) e, pin := ?_, bin := ?_, muin := ?_ }
    · intro a o e n
      refine hk₁ a o ?_ (S₀.pin a o e n)
      simp only [List.mem_singleton]
      rintro rfl
      rcases S'.mufr _ (List.mem_cons_self ..) with h1 | h1
      · exact n h1
      · simp only at h1; rw [h1] at e; cases e
    · intro a o e
      refine hk₁ a o ?_ (S₀.bin a o e)
      simp only [List.mem_singleton]
      rintro rfl
      simp only at hIb; rw [hIb] at e; cases e
    · intro p hp
      exact hk₁ _ _ (by simpa using hne p hp) (S₀.muin p hp)

/-- an iterator at I that hands on n values, the i-th a P i -/
structure IterAt (prog : Program) (w : World) (A : Around) (I : Addr) (b : Sn) (n : Nat) (P : Nat → Value → Prop) (h : Heap) : Prop where
  ex : ∃ fp Wst, Walks prog w A I fp [I] n P Wst ∧ Wst 0 h ∧ (∀ i h, Wst i h → ∃ o, h.get? I = some o) ∧ ∀ a ∈ fp, a = I ∨ ∃ o, b a = some o

theorem it_list {Q : Value → Shared → Prop} {a : Addr} {vs : List Value} (hh : A.handled = none) (S : St C L b m mu h) (hl : LstB b a vs)
    (q : ∀ I io h', h.get? I = none → I ∉ C.ps → St C L b m ((I, io) :: mu) h' → (∀ A' : Around, A'.handled = none → IterAt prog w A' I b vs.length (fun i v => vs[i]? = some v) h') → Q (.ref I) ⟨h', gs, dr, tk, os⟩) :
    wpAny (model prog w) A (pyIter (.ref a)) Q E ⟨h, gs, dr, tk, os⟩ := by
  have hls := hl.at S
  have hlt : a < h.objs.size := let ⟨_, ho, _⟩ := id hls; Heap.lt_size ho
  refine wpAny_pyIter_list hls ?_
  refine q _ _ _ (gone_self h) (S.fresh (gone_self h)).2.2.2.1 (S.push _) fun A' hA' => ⟨[h.objs.size, a], fun i h' => h'.IsListIter h.objs.size a i ∧ h'.IsList a vs.toArray, ?_, ⟨⟨_, Heap.get?_push_size _ rfl, rfl, rfl⟩, hls.push _⟩, fun i h st => let ⟨o, e, _⟩ := st.1; ⟨o, e⟩, ?_⟩
  · have W := Walks.list (prog := prog) (w := w) hA' h.objs.size a (Nat.ne_of_lt hlt) vs.toArray
    simpa using W
  · intro c hc
    simp only [List.mem_cons, List.not_mem_nil, or_false] at hc
    rcases hc with rfl | rfl
    · exact .inl rfl
    · exact .inr (let ⟨o, e, _⟩ := hl; ⟨o, e⟩)

theorem it_str {Q : Value → Shared → Prop} {y : Str} {t : Tok} (S : St C L b m mu h)
    (q : ∀ I io h', h.get? I = none → I ∉ C.ps → St C L b m ((I, io) :: mu) h' → (∀ A' : Around, A'.handled = none → IterAt prog w A' I b y.cps.size (SignAt y) h') → Q (.ref I) ⟨h', gs, dr, tk, os⟩) :
    wpAny (model prog w) A (pyIter (.str y t)) Q E ⟨h, gs, dr, tk, os⟩ := by
  have hal : ∀ (k : String) i h', Heap.IsStrIter h' h.objs.size k y t i → ∃ o, h'.get? h.objs.size = some o := fun k i h' st => let ⟨o, e, _⟩ := st; ⟨o, e⟩
  have hone : ∀ a ∈ [h.objs.size], a = h.objs.size ∨ ∃ o, b a = some o := fun a ha => .inl (by simpa using ha)
  cases ha : y.cps.all (· < 128)
  · exact wpAny_pyIter_wide ha (q _ _ _ (gone_self h) (S.fresh (gone_self h)).2.2.2.1 (S.push _) fun A' hA' => ⟨_, _, Walks.strWide hA' _ y t, ⟨_, Heap.get?_push_size _ rfl, rfl, rfl⟩, hal _, hone⟩)
  · exact wpAny_pyIter_ascii ha (q _ _ _ (gone_self h) (S.fresh (gone_self h)).2.2.2.1 (S.push _) fun A' hA' => ⟨_, _, Walks.strAscii hA' _ y t, ⟨_, Heap.get?_push_size _ rfl, rfl, rfl⟩, hal _, hone⟩)

def RngB (b : Sn) (r : Addr) (n : Nat) : Prop := ∃ t u v, b r = some { cls := .type "range", data := .fields #[.int 0 t, .int n u, .int 1 v] }
theorem call_rng {Q : Value → Shared → Prop} {n : Nat} {t : Tok} (S : St C L b m mu h)
    (q : ∀ r b' h' tk', b.Le b' → St C L b' m mu h' → RngB b' r n → Q (.ref r) ⟨h', gs, dr, tk', os⟩) :
    wpAny (model prog w) A (call (.type "range") [.int (n : Int) t]) Q E ⟨h, gs, dr, tk, os⟩ := by
  refine call_range_1 ?_
  have S' := S.push { cls := .type "range", data := .fields #[.int 0 tk, .int n t, .int 1 (tk + 1)] }
  obtain ⟨S2, l⟩ := S'.freeze0 (S.fresh (gone_self h)).2.2.2.1
  exact q _ _ _ _ l S2 ⟨_, _, _, Sn.put_self ..⟩
theorem it_rng {Q : Value → Shared → Prop} {r : Addr} {n : Nat} (S : St C L b m mu h) (hr : RngB b r n) (hn : n < 2 ^ 61)
    (q : ∀ I io h', h.get? I = none → I ∉ C.ps → St C L b m ((I, io) :: mu) h' → (∀ A' : Around, A'.handled = none → IterAt prog w A' I b n (fun i v => ∃ t, v = .int (i : Int) t) h') → Q (.ref I) ⟨h', gs, dr, tk, os⟩) :
    wpAny (model prog w) A (pyIter (.ref r)) Q E ⟨h, gs, dr, tk, os⟩ := by
  obtain ⟨t, u, v, hr⟩ := hr
  have hr' : IsRange (Shared.heap ⟨h, gs, dr, tk, os⟩) r 0 n 1 t u v := S.bin _ _ hr
  refine wpAny_pyIter_range hr' (small_one (by omega) (by omega) (by omega) (by omega)) ?_
  refine q _ _ _ (gone_self h) (S.fresh (gone_self h)).2.2.2.1 (S.push _) fun A' hA' => ⟨[h.objs.size], fun i h' => IsRangeIter h' h.objs.size (0 + (i : Nat) * 1) ((n : Int) - (i : Nat)) 1, ?_, ?_, fun i h' st => ⟨_, st⟩, fun a ha => .inl (by simpa using ha)⟩
  · have W := Walks.range (prog := prog) (w := w) hA' h.objs.size 0 1 n
    have e : (fun i v => ∃ t, v = Value.int (0 + (i : Nat) * 1) t) = fun (i : Nat) v => ∃ t, v = Value.int (i : Int) t := by funext i v; simp
    rw [e] at W; exact W
  · show IsRangeIter _ _ (0 + ((0 : Nat) : Int) * 1) ((n : Int) - ((0 : Nat) : Int)) 1
    have e2 : Builtin.Range.rangeSize 0 n 1 = (n : Int) := by rw [rangeSize_one]; split <;> omega
    rw [e2]
    simpa using Heap.get?_push_size _ rfl

theorem for_it {Q : Flow → Shared → Prop} {px : Pos} {body : List Stmt} {I : Addr} {io : Obj} {n : Nat} {P : Nat → Value → Prop}
    (W : IterAt prog w A I b n P h) (S : St C env.locals b m ((I, io) :: mu) h) (hI : I ∉ C.ps)
    (J : Nat → (Str → Option Value) → Mu → Sn → Prop) (h0 : J 0 m mu b)
    (turn : ∀ i v io₁ m₁ mu₁ b₁ h₁ tk₁, i < n → P i v → J i m₁ mu₁ b₁ → b.Le b₁ → St C env.locals b₁ (upd m₁ x v) ((I, io₁) :: mu₁) h₁ →
      wpAny (model prog w) A (execs body env) (TurnEnd C env.locals I io₁ b₁ (J (i + 1)) gs dr os Q) NE ⟨h₁, gs, dr, tk₁, os⟩)
    (done : ∀ m₁ mu₁ b₁ h₁ tk₁, J n m₁ mu₁ b₁ → b.Le b₁ → St C env.locals b₁ m₁ mu₁ h₁ → Q .next ⟨h₁, gs, dr, tk₁, os⟩)
    (hx : env.kindOf x = some .local := by rfl) (hp : (env.scope.kind == .class || (env.scope.kind == .module && env.locals != env.globals)) = false := by rfl) :
    codeAny (model prog w) A (.forLoop (.Name x px) (.ref I) body [] env) (forR prog w A env E Q) ⟨h, gs, dr, tk, os⟩ := by
  obtain ⟨fp, Wst, W, hst, hal, hfp⟩ := W.ex
  exact for_walk W S hst hal hfp hI J h0 turn done hx hp
end
end Mine

end
section
open PySem PySem.W PyProof.Rows PySem.Calls PySem.Spec
set_option Elab.async false
set_option maxRecDepth 100000
set_option linter.unusedVariables false
namespace Mine

section
variable {prog : Program} {w : World} {A : Around} {E : Value → Shared → Prop} {C : Cx} {L : Addr} {b : Sn} {m mg mb : Str → Option Value} {mu : Mu}
  {h h' : Heap} {gs : Array GenState} {dr : Drawn} {tk : Nat} {os : OsState} {env : Env} {x : Str} {pos : Pos} {v : Value}

theorem St.off {C' : Cx} {L' : Addr} {b' : Sn} {m' : Str → Option Value} {mu' : Mu} {h'' : Heap} (S : St C L b m mu h) (hL : L ≠ L') (hb : b L' = none) (hmu : ∀ p ∈ mu, p.1 ≠ L') (hg : C.g.get? L' = none)
    (k : ∀ a o, a ≠ L' → h.get? a = some o → h''.get? a = some o) : St C L b m mu h'' :=
  { S with
    ns := S.ns.at' fun o e => k _ o hL e
    pin := fun a o e n => k a o (fun q => by rw [q, hg] at e; cases e) (S.pin a o e n)
    bin := fun a o e => k a o (fun q => by rw [q, hb] at e; cases e) (S.bin a o e)
    muin := fun p hp => k _ _ (hmu p hp) (S.muin p hp) }

theorem St.backBut {mv mr mv' : Mu} {L' : Addr} {b' : Sn} {m' : Str → Option Value} {h'' : Heap} (S : St C L b m (mv ++ mr) h) (S' : St ⟨C.h₀, b, h, addrs mv⟩ L' b' m' mv' h')
    (k : ∀ a o, a ≠ L' → h'.get? a = some o → h''.get? a = some o) : St C L b' m (mv' ++ mr) h'' := by
  have S₁ := S.back S'
  have hg : h.get? L' = none := S'.gL
  have f := S.fresh hg
  refine S₁.off (C' := C) (L' := L') (b' := b') (m' := m') (mu' := []) (Ne.symm f.1) S'.bL (fun p hp q => ?_) f.2.2.2.2 k
  rcases List.mem_append.mp hp with h1 | h1
  · exact S'.muL p h1 q
  · have := S.muin p (List.mem_append_right _ h1); rw [q, hg] at this; cases this

abbrev testsOf (ifs : List Expr) (env : Env) : Sem Bool := forIn ifs true fun c r => if r = true then do let ok ← isTrue c env (eval c env); pure (ForInStep.yield ok) else pure (ForInStep.yield r)

theorem comp_setup {elt target iter : Expr} {ifs : List Expr} {scope : Scope} {cl : List (Str × Addr)} {I : Addr} {io : Obj} {n : Nat} {P : Nat → Value → Prop} {RR : Value → Addr → Result → Shared → Prop}
    (S : St C L b m ((I, io) :: mu) h) (W : IterAt prog w A I b n P h)
    (hcell : ∀ y ∈ scope.names, y.2 ≠ .cell) (hkind : scope.kind = .function)
    (q : ∀ D Cc h₁ tk₁, IterAt prog w A I b n P h₁ → St ⟨C.h₀, b, h, [I]⟩ Cc b (fun _ => none) [(D, lstO [] 0), (I, io)] h₁ →
      codeAny (model prog w) A (.compLoop (.ListComp elt [⟨target, iter, ifs, 0⟩] scope pos) 0 (.ref I) (.ref D) (compEnvC scope cl Cc env)) (RR (.ref D) Cc) ⟨h₁, gs, dr, tk₁, os⟩) :
    wpAny (model prog w) A (newList []) (fun acc s₃ => wpAny (model prog w) A (newFunctionEnv scope env.globals cl [] env.qual none .none (some env)) (fun cenv s₄ =>
      codeAny (model prog w) A (.compStart (.ListComp elt [⟨target, iter, ifs, 0⟩] scope pos) 0 (.ref I) acc { cenv with scope := relabel scope env }) (RR acc cenv.locals) s₄) E s₃) E ⟨h, gs, dr, tk, os⟩ := by
  refine wpAny_newObj_type (wpAny_newFunctionEnv hcell (by intro y hy; simp at hy) (fun h₁ hns₁ hsb₁ => ?_) hkind)
  dsimp only at hns₁ hsb₁ ⊢
  have hpush := Heap.size_push h { cls := .type "list", data := .seq ([] : List Value).toArray }
  generalize hH2 : h.push { cls := .type "list", dict := none, data := .seq ([] : List Value).toArray } = H2 at hns₁ hsb₁ hpush ⊢
  have k2 : ∀ a o, h.get? a = some o → H2.get? a = some o := fun a o e => hH2 ▸ Heap.get?_push_of_some _ e
  have k1 : ∀ a o, H2.get? a = some o → h₁.get? a = some o := fun a o e => hsb₁.extBut a o (Nat.ne_of_lt (Heap.lt_size e)) (Heap.get?_push_of_some _ e)
  have hC : h.get? H2.objs.size = none := gone (by rw [hpush]; exact Nat.le_succ _)
  have S₁ := St.enter (mv := [(I, io)]) S hC hns₁ fun a o e => k1 a o (k2 a o e)
  have hD : H2.get? h.objs.size = some (lstO [] 0) := hH2 ▸ Heap.get?_push_size _ rfl
  have hDn : h.objs.size ≠ H2.objs.size := by rw [hpush]; exact Nat.ne_of_lt (Nat.lt_succ_self _)
  have fr := S.fresh (gone_self h)
  have S₂ : St ⟨C.h₀, b, h, [I]⟩ H2.objs.size b (fun _ => none) [(h.objs.size, lstO [] 0), (I, io)] h₁ := { S₁ with
    bmu := fun p hp => by rcases List.mem_cons.mp hp with rfl | hp; exact fr.2.1; exact S₁.bmu p hp
    muin := fun p hp => by rcases List.mem_cons.mp hp with rfl | hp; exact k1 _ _ hD; exact S₁.muin p hp
    muL := fun p hp => by rcases List.mem_cons.mp hp with rfl | hp; exact hDn; exact S₁.muL p hp
    mund := List.nodup_cons.mpr ⟨(by
      simp only [List.map_cons, List.map_nil, List.mem_singleton]
      intro q; have := S.muin _ (List.mem_cons_self ..); rw [← q, gone_self] at this; cases this), S₁.mund⟩
    mufr := fun p hp => by rcases List.mem_cons.mp hp with rfl | hp; exact .inr (gone_self h); exact S₁.mufr p hp
    psin := fun a ha => List.mem_cons_of_mem _ (S₁.psin a ha) }
  have W₁ : IterAt prog w A I b n P h₁ := by
    obtain ⟨fp, Wst, W, hst, hal, hfp⟩ := W.ex
    exact ⟨fp, Wst, W, W.frame _ _ _ hst fun a _ o e => k1 a o (k2 a o e), hal, hfp⟩
  have loop : ∀ s₃ : Shared, s₃ = ⟨h₁, gs, dr, tk + ([] : List (Str × Value)).length, os⟩ → codeAny (model prog w) A (.compLoop (.ListComp elt [⟨target, iter, ifs, 0⟩] scope pos) 0 (.ref I) (.ref h.objs.size) (compEnvC scope cl H2.objs.size env)) (RR (.ref h.objs.size) H2.objs.size) s₃ := by
    rintro s₃ rfl
    exact q _ _ _ _ W₁ S₂
  obtain ⟨fp, Wst, W, hst, hal, hfp⟩ := W₁.ex
  exact codeAny_compStart_list (loop _ rfl) (W.self 0 _ _ _ hst (loop _ rfl))

theorem IterAt.next {I : Addr} {n : Nat} {P : Nat → Value → Prop} (W : IterAt prog w A I b n P h) : True := trivial

/-- one list comprehension's turns: target a name, tests as written -/
theorem comp_walk {elt iter : Expr} {px : Pos} {ifs : List Expr} {scope : Scope} {I D Cc : Addr} {io : Obj} {n : Nat} {P : Nat → Value → Prop} {g : Heap} {R : Result → Shared → Prop} {h₀ : Heap} {cenv : Env}
    (hC : cenv.locals = Cc) (W : IterAt prog w A I b n P h) (S : St ⟨h₀, b, g, [I]⟩ Cc b m [(D, lstO [] 0), (I, io)] h)
    (hx : cenv.kindOf x = some .local) (hp : (cenv.scope.kind == .class || (cenv.scope.kind == .module && cenv.locals != cenv.globals)) = false)
    (J : Nat → List Value → Sn → Prop) (h0 : J 0 [] b) (hsz : n ≤ sizeLine)
    (turn : ∀ i v ys b₁ io₁ k m₁ h₁ tk₁, i < n → P i v → J i ys b₁ → b.Le b₁ → m₁ x = some v → St ⟨h₀, b, g, [I]⟩ Cc b₁ m₁ [(D, lstO ys k), (I, io₁)] h₁ →
      wpAny (model prog w) A (testsOf ifs cenv) (fun ok s' => ∃ h₂ tk₂ b₂, s' = ⟨h₂, gs, dr, tk₂, os⟩ ∧ St ⟨h₀, b, g, [I]⟩ Cc b₂ m₁ [(D, lstO ys k), (I, io₁)] h₂ ∧ b₁.Le b₂ ∧
        if ok = true then wpAny (model prog w) A (eval elt cenv) (fun y s'' => ∃ h₃ tk₃ b₃, s'' = ⟨h₃, gs, dr, tk₃, os⟩ ∧ St ⟨h₀, b, g, [I]⟩ Cc b₃ m₁ [(D, lstO ys k), (I, io₁)] h₃ ∧ b₂.Le b₃ ∧ J (i + 1) (ys ++ [y]) b₃) NE s'
        else J (i + 1) ys b₂) NE ⟨h₁, gs, dr, tk₁, os⟩)
    (done : ∀ ys b₁ io₁ k m₁ h' h₁ tk₁, J n ys b₁ → b.Le b₁ → ys.length ≤ n → St ⟨h₀, b, g, [I]⟩ Cc b₁ m₁ [(D, lstO ys k), (I, io₁)] h' → (∀ a o, a ≠ I → h'.get? a = some o → h₁.get? a = some o) → R (.ok .next) ⟨h₁, gs, dr, tk₁, os⟩) :
    codeAny (model prog w) A (.compLoop (.ListComp elt [⟨.Name x px, iter, ifs, 0⟩] scope pos) 0 (.ref I) (.ref D) cenv) R ⟨h, gs, dr, tk, os⟩ := by
  subst hC
  obtain ⟨fp, Wst, W, hst, hal, hfp⟩ := W.ex
  refine codeAny_compLoop_tests
    (fun k s' => ∃ h' tk' io' m' ys b' i c, s' = ⟨h', gs, dr, tk', os⟩ ∧ Wst i h' ∧ St ⟨h₀, b, g, [I]⟩ cenv.locals b' m' [(D, lstO ys c), (I, io')] h' ∧ b.Le b' ∧ J i ys b' ∧ i ≤ n ∧ ys.length ≤ i ∧ k = n + 1 - i) ?_ (n + 1)
    ⟨h, tk, io, m, [], b, 0, 0, rfl, hst, S, Sn.Le.refl _, h0, Nat.zero_le _, Nat.le_refl _, rfl⟩
  rintro k s' ⟨h', tk', io', m', ys, b', i, c, rfl, hst', S', hb', hJ, hi, hys, rfl⟩
  by_cases hlt : i < n
  · refine W.item i _ _ _ hlt hst' fun v h₁ tk₁ hP hst₁ hk₁ => ?_
    obtain ⟨io₁, hio₁⟩ := hal _ _ hst₁
    have S₁ : St ⟨h₀, b, g, [I]⟩ cenv.locals b' m' [(D, lstO ys c), (I, io₁)] h₁ := St.mut (mu1 := [(D, lstO ys c)]) S' hio₁ fun a o n e => hk₁ a o (by simpa using n) e
    refine wpAny_assign_Name (wpAny_storeName_local hx S₁.ns (fun h₂ hn₂ hs₂ => ?_) hp)
    have S₂ := S₁.locS hn₂ hs₂
    refine wpAny_mono (turn i v ys b' io₁ c _ h₂ _ hlt hP hJ hb' (by simp) S₂) (fun ok s₃ he => ?_) fun _ _ e => e.elim
    obtain ⟨h₃, tk₃, b₃, rfl, S₃, l₃, he⟩ := he
    have wst : ∀ {b₄ mu₄ h₄}, St ⟨h₀, b, g, [I]⟩ cenv.locals b₄ (fun y => if y = x then some v else m' y) mu₄ h₄ → (I, io₁) ∈ mu₄ → b'.Le b₄ → Wst (i + 1) h₄ := by
      intro b₄ mu₄ h₄ S₄ hm l₄
      refine W.frame _ _ _ hst₁ fun a ha o e => ?_
      rcases hfp _ ha with rfl | ⟨o', h1⟩
      · rw [hio₁] at e; cases e; exact S₄.muin _ hm
      · have e1 := S₁.bin _ _ (hb' _ _ h1)
        rw [e1] at e; cases e
        exact S₄.bin _ _ (l₄ _ _ (hb' _ _ h1))
    cases ok with
    | false =>
      simp only [Bool.false_eq_true, if_false] at he ⊢
      exact ⟨n + 1 - (i + 1), by omega, h₃, tk₃, io₁, _, ys, b₃, i + 1, c, rfl, wst S₃ (by simp) l₃, S₃, hb'.trans l₃, he, hlt, by omega, rfl⟩
    | true =>
      simp only [if_true] at he ⊢
      refine wpAny_mono he (fun y s₄ h4 => ?_) fun _ _ e => e.elim
      obtain ⟨h₄, tk₄, b₄, rfl, S₄, l₄, j₄⟩ := h4
      have hD : Heap.PlainList h₄ D ys.toArray := ⟨c, S₄.muin (D, lstO ys c) (by simp)⟩
      refine wpAny_list_append_plain (hsz := by simp only [List.size_toArray]; omega) hD fun h₅ hl₅ hs₅ => ?_
      obtain ⟨c', hl₅⟩ := hl₅
      have S₅ : St ⟨h₀, b, g, [I]⟩ cenv.locals b₄ (fun y => if y = x then some v else m' y) [(D, lstO (ys ++ [y]) c'), (I, io₁)] h₅ :=
        St.mut (mu1 := []) S₄ (by rw [hl₅]; simp [lstO]) fun a o n e => hs₅.extBut a o n e
      exact ⟨n + 1 - (i + 1), by omega, h₅, _, io₁, _, ys ++ [y], b₄, i + 1, c', rfl, wst S₅ (by simp) (l₃.trans l₄), S₅, hb'.trans (l₃.trans l₄), j₄, hlt, by simp; omega, rfl⟩
  · have hin : i = n := by omega
    subst hin
    exact W.done _ _ _ hst' fun h₁ tk₁ hk₁ => done ys b' io' c m' h' h₁ tk₁ hJ hb' hys S' fun a o q e => hk₁ a o (by simpa using q) e

theorem comp_fin {I D Cc : Addr} {io io₁ : Obj} {do_ : Obj} {b₁ : Sn} {m₁ : Str → Option Value} {h₁ h₂ : Heap} (S : St C L b m ((I, io) :: mu) h) (hI : I ∉ C.ps) (S' : St ⟨C.h₀, b, h, [I]⟩ Cc b₁ m₁ [(D, do_), (I, io₁)] h')
    (k₁ : ∀ a o, a ≠ I → h'.get? a = some o → h₁.get? a = some o) (k₂ : Heap.SameBut Cc h₁ h₂) : St C L b₁ m ((D, do_) :: mu) h₂ ∧ D ∉ C.ps := by
  have S₁ : St C L b₁ m ((D, do_) :: (I, io₁) :: mu) h' := St.back (mv := [(I, io)]) S S'
  have S₂ : St C L b₁ m ((D, do_) :: mu) h' := St.drop (mu1 := [(D, do_)]) S₁ hI
  have hm : (I, io₁) ∈ (D, do_) :: (I, io₁) :: mu := by simp
  have hne := (nodup_mid (mu1 := [(D, do_)]) S₁.mund).1
  have hg : C.g.get? I = none := (S₁.mufr _ hm).resolve_left hI
  have S₃ : St C L b₁ m ((D, do_) :: mu) h₁ := St.off (C' := C) (L' := I) (b' := b₁) (m' := m) (mu' := mu) S₂ (Ne.symm (S₁.muL _ hm)) (S₁.bmu _ hm) hne hg k₁
  have hc : h.get? Cc = none := S'.gL
  have f := S.fresh hc
  have hIa := S.muin (I, io) (List.mem_cons_self ..)
  refine ⟨St.off (C' := C) (L' := Cc) (b' := b₁) (m' := m) (mu' := mu) S₃ (Ne.symm f.1) S'.bL (fun p hp => ?_) f.2.2.2.2 fun a o n e => k₂.extBut a o n e, ?_⟩
  · rcases List.mem_cons.mp hp with rfl | hp
    · exact S'.muL _ (List.mem_cons_self ..)
    · intro q; have := S.muin p (List.mem_cons_of_mem _ hp); rw [q, hc] at this; cases this
  · intro q
    obtain ⟨p, hp, e⟩ := List.mem_map.mp (S.psin _ q)
    have hpal := S.muin p hp
    rcases S'.mufr (D, do_) (List.mem_cons_self ..) with h1 | h1
    · simp only [List.mem_singleton] at h1; exact hI (h1 ▸ q)
    · simp only at h1; rw [e, h1] at hpal; cases hpal

section
variable {elt iter : Expr} {px : Pos} {ifs : List Expr} {scope : Scope} {cl : List (Str × Addr)} {I : Addr} {io : Obj} {n : Nat} {P : Nat → Value → Prop}

/-- what a turn of a list comprehension has to show -/
abbrev LcTurn (prog : Program) (w : World) (A : Around) (env : Env) (scope : Scope) (cl : List (Str × Addr)) (elt : Expr) (ifs : List Expr) (C : Cx) (b : Sn) (h : Heap) (I : Addr) (x : Str) (n : Nat) (P : Nat → Value → Prop)
    (J : Nat → List Value → Sn → Prop) (gs : Array GenState) (dr : Drawn) (os : OsState) : Prop :=
  ∀ Cc D i v ys b₁ io₁ k m₁ h₁ tk₁, i < n → P i v → J i ys b₁ → b.Le b₁ → m₁ x = some v → St ⟨C.h₀, b, h, [I]⟩ Cc b₁ m₁ [(D, lstO ys k), (I, io₁)] h₁ →
    wpAny (model prog w) A (testsOf ifs (compEnvC scope cl Cc env)) (fun ok s' => ∃ h₂ tk₂ b₂, s' = ⟨h₂, gs, dr, tk₂, os⟩ ∧ St ⟨C.h₀, b, h, [I]⟩ Cc b₂ m₁ [(D, lstO ys k), (I, io₁)] h₂ ∧ b₁.Le b₂ ∧
      if ok = true then wpAny (model prog w) A (eval elt (compEnvC scope cl Cc env)) (fun y s'' => ∃ h₃ tk₃ b₃, s'' = ⟨h₃, gs, dr, tk₃, os⟩ ∧ St ⟨C.h₀, b, h, [I]⟩ Cc b₃ m₁ [(D, lstO ys k), (I, io₁)] h₃ ∧ b₂.Le b₃ ∧ J (i + 1) (ys ++ [y]) b₃) NE s'
      else J (i + 1) ys b₂) NE ⟨h₁, gs, dr, tk₁, os⟩

theorem lc_block {Q : Value → Shared → Prop} (S : St C L b m ((I, io) :: mu) h) (hI : I ∉ C.ps) (W : IterAt prog w A I b n P h) (hsz : n ≤ sizeLine)
    (hcell : ∀ y ∈ scope.names, y.2 ≠ .cell) (hkind : scope.kind = .function) (hx : scope.names.lookup x = some .local)
    (J : Nat → List Value → Sn → Prop) (h0 : J 0 [] b) (turn : LcTurn prog w A env scope cl elt ifs C b h I x n P J gs dr os)
    (done : ∀ ys b₁ D k h₁ tk₁, J n ys b₁ → b.Le b₁ → ys.length ≤ n → D ∉ C.ps → St C L b₁ m ((D, lstO ys k) :: mu) h₁ → Q (.ref D) ⟨h₁, gs, dr, tk₁, os⟩) :
    wpAny (model prog w) A (newList []) (fun acc s₃ => wpAny (model prog w) A (newFunctionEnv scope env.globals cl [] env.qual none .none (some env)) (fun cenv s₄ =>
      codeAny (model prog w) A (.compStart (.ListComp elt [⟨.Name x px, iter, ifs, 0⟩] scope pos) 0 (.ref I) acc { cenv with scope := relabel scope env }) (compPost (model prog w) A E none Q acc cenv.locals) s₄) E s₃) E ⟨h, gs, dr, tk, os⟩ := by
  refine comp_setup (RR := fun acc Cc => compPost (model prog w) A E none Q acc Cc) S W hcell hkind fun D Cc h₁ tk₁ W₁ S₁ => ?_
  refine comp_walk (cenv := compEnvC scope cl Cc env) rfl W₁ S₁ (lookup_relabel_local hx) (by simp [compEnvC, relabel, hkind]) J h0 hsz (fun i v ys b₁ io₁ k m₁ h₂ tk₂ a1 a2 a3 a4 a5 a6 => turn Cc D i v ys b₁ io₁ k m₁ h₂ tk₂ a1 a2 a3 a4 a5 a6) ?_
  intro ys b₁ io₁ k m₁ h' h₂ tk₂ hJ hb hl S' k₁
  have hIC : I ≠ Cc := S'.muL (I, io₁) (by simp)
  refine ⟨m₁, S'.ns.at' fun o e => k₁ _ o (Ne.symm hIC) e, fun h₃ hs₃ => ?_⟩
  obtain ⟨S₃, hD⟩ := comp_fin S hI S' k₁ hs₃
  exact done ys b₁ D k h₃ tk₂ hJ hb hl hD S₃

theorem lc_block_use {Q : Flow → Shared → Prop} {y : Str} {py : Pos} (S : St C env.locals b m ((I, io) :: mu) h) (hI : I ∉ C.ps) (W : IterAt prog w A I b n P h) (hsz : n ≤ sizeLine)
    (hcell : ∀ y ∈ scope.names, y.2 ≠ .cell) (hkind : scope.kind = .function) (hx : scope.names.lookup x = some .local)
    (hy : env.kindOf y = some .local) (hp : (env.scope.kind == .class || (env.scope.kind == .module && env.locals != env.globals)) = false)
    (J : Nat → List Value → Sn → Prop) (h0 : J 0 [] b) (turn : LcTurn prog w A env scope cl elt ifs C b h I x n P J gs dr os)
    (done : ∀ ys b₁ D k h₁ tk₁, J n ys b₁ → b.Le b₁ → ys.length ≤ n → D ∉ C.ps → St C env.locals b₁ (upd m y (.ref D)) ((D, lstO ys k) :: mu) h₁ → Q .next ⟨h₁, gs, dr, tk₁, os⟩) :
    wpAny (model prog w) A (newList []) (fun acc s₃ => wpAny (model prog w) A (newFunctionEnv scope env.globals cl [] env.qual none .none (some env)) (fun cenv s₄ =>
      codeAny (model prog w) A (.compStart (.ListComp elt [⟨.Name x px, iter, ifs, 0⟩] scope pos) 0 (.ref I) acc { cenv with scope := relabel scope env }) (compPost (model prog w) A E (some (assign (.Name y py) env)) (fun _ s' => Q .next s') acc cenv.locals) s₄) E s₃) E ⟨h, gs, dr, tk, os⟩ := by
  refine comp_setup (RR := fun acc Cc => compPost (model prog w) A E (some (assign (.Name y py) env)) (fun _ s' => Q .next s') acc Cc) S W hcell hkind fun D Cc h₁ tk₁ W₁ S₁ => ?_
  refine comp_walk (cenv := compEnvC scope cl Cc env) rfl W₁ S₁ (lookup_relabel_local hx) (by simp [compEnvC, relabel, hkind]) J h0 hsz (fun i v ys b₁ io₁ k m₁ h₂ tk₂ a1 a2 a3 a4 a5 a6 => turn Cc D i v ys b₁ io₁ k m₁ h₂ tk₂ a1 a2 a3 a4 a5 a6) ?_
  intro ys b₁ io₁ k m₁ h' h₂ tk₂ hJ hb hl S' k₁
  have hIC : I ≠ Cc := S'.muL (I, io₁) (by simp)
  have hn₂ : h₂.Ns Cc m₁ := S'.ns.at' fun o e => k₁ _ o (Ne.symm hIC) e
  obtain ⟨S₃, hD⟩ := comp_fin S hI S' k₁ (Heap.SameBut.refl Cc h₂)
  have hLC : env.locals ≠ Cc := Ne.symm (S.fresh S'.gL).1
  refine wpAny_assign_Name (wpAny_storeName_local hy S₃.ns (fun h₄ hn₄ hs₄ => ?_) hp)
  refine ⟨m₁, hn₂.sameBut hs₄ (Ne.symm hLC), fun h₅ hs₅ => ?_⟩
  have S₄ := S₃.locS hn₄ hs₄
  have f := S.fresh S'.gL
  have S₅ : St C env.locals b₁ (upd m y (.ref D)) ((D, lstO ys k) :: mu) h₅ := St.off (C' := C) (L' := Cc) (b' := b₁) (m' := m) (mu' := mu) S₄ hLC S'.bL (fun p hp => by
    rcases List.mem_cons.mp hp with rfl | hp
    · exact S'.muL _ (List.mem_cons_self ..)
    · intro q; have := S.muin p (List.mem_cons_of_mem _ hp); rw [q, (show h.get? Cc = none from S'.gL)] at this; cases this) f.2.2.2.2 fun a o n e => hs₅.extBut a o n e
  exact done ys b₁ D k h₅ _ hJ hb hl hD S₅

/-- a list comprehension as an expression -/
theorem lc_eval {Q : Value → Shared → Prop} {s : Shared} (hclos : closureFor scope env = pure cl) (hkind : scope.kind = .function) (hnames : ∀ y ∈ scope.names, y.2 = .local → scope.names.lookup y.1 = some .local)
    (q : wpAny (model prog w) A (eval iter env) (fun xv s₁ => wpAny (model prog w) A (pyIter xv) (fun it s₂ => wpAny (model prog w) A (newList []) (fun acc s₃ => wpAny (model prog w) A (newFunctionEnv scope env.globals cl [] env.qual none .none (some env)) (fun cenv s₄ =>
      codeAny (model prog w) A (.compStart (.ListComp elt [⟨.Name x px, iter, ifs, 0⟩] scope pos) 0 it acc { cenv with scope := relabel scope env }) (compPost (model prog w) A E none Q acc cenv.locals) s₄) E s₃) E s₂) E s₁) E s)
    (hs : ∀ x, foldedSetIterable iter env x = pure x := by intro _; rfl) :
    wpAny (model prog w) A (eval (.ListComp elt [⟨.Name x px, iter, ifs, 0⟩] scope pos) env) Q E s := by
  rw [eval_ListComp]
  exact wpAny_comprehension_free (use := none) rfl hs hclos hkind hnames q

theorem lc_assign {Q : Flow → Shared → Prop} {s : Shared} {y : Str} {py spos : Pos} (hsw : swapsWith (.ListComp elt [⟨.Name x px, iter, ifs, 0⟩] scope pos) (some (.Name y py)) spos.line env = pure true)
    (hclos : closureFor scope env = pure cl) (hkind : scope.kind = .function) (hnames : ∀ y ∈ scope.names, y.2 = .local → scope.names.lookup y.1 = some .local)
    (q : wpAny (model prog w) A (eval iter env) (fun xv s₁ => wpAny (model prog w) A (pyIter xv) (fun it s₂ => wpAny (model prog w) A (newList []) (fun acc s₃ => wpAny (model prog w) A (newFunctionEnv scope env.globals cl [] env.qual none .none (some env)) (fun cenv s₄ =>
      codeAny (model prog w) A (.compStart (.ListComp elt [⟨.Name x px, iter, ifs, 0⟩] scope pos) 0 it acc { cenv with scope := relabel scope env }) (compPost (model prog w) A E (some (assign (.Name y py) env)) (fun _ s' => Q .next s') acc cenv.locals) s₄) E s₃) E s₂) E s₁) E s)
    (hs : ∀ x, foldedSetIterable iter env x = pure x := by intro _; rfl) :
    wpAny (model prog w) A (exec (.Assign [.Name y py] (.ListComp elt [⟨.Name x px, iter, ifs, 0⟩] scope pos) spos) env) Q E s := by
  rw [exec_Assign_Name_used _ _ _ _ hsw]
  refine wpAny_bind (wpAny_standAt (wpAny_bind ?_))
  show wpAny _ A (do let _ ← comprehension (.ListComp elt [⟨.Name x px, iter, ifs, 0⟩] scope pos) scope env _ (newList []) false (eval iter env) (some (assign (.Name y py) env))) _ _ s
  exact wpAny_bind (wpAny_mono (wpAny_comprehension_free (use := some (assign (.Name y py) env)) (Q := fun _ s' => Q .next s') rfl hs hclos hkind hnames q)
    (fun _ s' hq => wpAny_pure (wpAny_pure hq)) fun _ _ e => e)
end
end
end Mine

end
section
open PySem PySem.W PyProof.Rows PySem.Calls PySem.Spec
set_option Elab.async false
set_option maxRecDepth 100000
set_option linter.unusedVariables false
namespace Mine

def CelB (b : Sn) (c : Addr) (v : Value) : Prop := ∃ o, b c = some o ∧ o.data = .cell (some v)
theorem CelB.le {b b' : Sn} {c : Addr} {v : Value} (x : CelB b c v) (l : b.Le b') : CelB b' c v := let ⟨o, e, r⟩ := x; ⟨o, l _ _ e, r⟩
theorem CelB.at {C : Cx} {L : Addr} {b : Sn} {m : Str → Option Value} {mu : Mu} {h : Heap} {c : Addr} {v : Value} (x : CelB b c v) (S : St C L b m mu h) : h.IsCell c (some v) := let ⟨o, e, r⟩ := x; ⟨o, S.bin _ _ e, r⟩
theorem CelB.put {b : Sn} {c : Addr} {v : Value} {o : Obj} (e : o.data = .cell (some v)) : CelB (b.put c o) c v := ⟨o, Sn.put_self .., e⟩

theorem cellsFrom_nodup : ∀ (names : List (Str × NameKind)) (n : Nat) (acc : List (Str × Addr)), (∀ p ∈ acc, p.2 < n) → (acc.map (·.2)).Nodup → ((cellsFrom n names acc).map (·.2)).Nodup
  | [], _, _, _, h => h
  | (x, k) :: r, n, acc, h1, h2 => by
    unfold cellsFrom
    by_cases hk : (k == .cell) = true
    · rw [if_pos hk]
      refine cellsFrom_nodup r (n + 1) _ (fun p hp => ?_) ?_
      · rcases List.mem_cons.mp hp with rfl | hp
        · exact Nat.lt_succ_self _
        · exact Nat.lt_succ_of_lt (h1 p hp)
      · refine List.nodup_cons.mpr ⟨fun q => ?_, h2⟩
        obtain ⟨p, hp, e⟩ := List.mem_map.mp q
        exact absurd (h1 p hp) (by rw [e]; exact Nat.lt_irrefl _)
    · rw [if_neg hk]; exact cellsFrom_nodup r n acc h1 h2
theorem CellsAre.adr {cm : Str → Option Value} {cs : List (Str × Addr)} {cells : List (Addr × Obj)} (Y : CellsAre cm cs cells) : cells.map (·.1) = cs.map (·.2) := by
  induction Y with
  | nil => rfl
  | cons h r ih => simp [ih]

section
variable {prog : Program} {w : World} {A : Around} {E : Value → Shared → Prop} {C : Cx} {L : Addr} {b : Sn} {m mg mb : Str → Option Value} {mu : Mu}
  {h h' : Heap} {gs : Array GenState} {dr : Drawn} {tk : Nat} {os : OsState} {env : Env} {x : Str} {pos : Pos} {v : Value}

theorem own_callC {mv mr : Mu} {Q : Value → Shared → Prop} {name qual : Str} {params : Arguments} {body : List Stmt} {scope : Scope} {dV kV doc pm cdv ct oc : Value} {an od : Option Addr} {osl : Array (Option Value)}
    {f : Addr} {args : List Value} {kw : List (Str × Value)} {binds : List (Str × Value)}
    (G : Glb w mg mb C.h₀) (S : St C L b m (mv ++ mr) h) (hroom : A.depth < recursionLimit)
    (ho : (hd.heap_39 w.params).lookup f = some ⟨oc, od, .func (fnOf name qual params body scope dV kV doc pm an cdv ct), osl⟩) (hcd : codeIn (hd.heap_39 w.params) cdv qual = true)
    (hbind : BindsTo ⟨h, gs, dr, tk, os⟩ (fnOf name qual params body scope dV kV doc pm an cdv ct) ⟨args, kw⟩ binds)
    (q : ∀ L' h₁ tk₁ cells, CellsAre (bindC (envOfC qual scope L' f cdv).kindOf binds fun _ => none) (cellsFrom (L' + 1) scope.names []) cells →
      St ⟨C.h₀, b, h, addrs mv⟩ L' b (bindL (envOfC qual scope L' f cdv).kindOf binds fun _ => none) (cells ++ mv) h₁ →
      wpAny (model prog w) (A.deeper (envOfC qual scope L' f cdv)) (execs body (envOfC qual scope L' f cdv))
        (fun fl s' => Back C L b m mr ⟨C.h₀, b, h, addrs mv⟩ L' gs dr os Q (retOf fl) s') NE ⟨h₁, gs, dr, tk₁, os⟩)
    (hkind : (binds.all fun y => scope.names.lookup y.1 == some .local || scope.names.lookup y.1 == some .cell) = true := by rfl)
    (hnd : ((cellsFrom 0 scope.names []).map (·.1)).Nodup := by decide +kernel)
    (hco : scope.isCoroutine = false := by rfl) (hgen : scope.isGenerator = false := by rfl) (hk : scope.kind = .function := by rfl) :
    wpAny (model prog w) A (call (.ref f) args kw) Q E ⟨h, gs, dr, tk, os⟩ := by
  obtain ⟨p, loose, mean, T⟩ := G.T
  have X := G.at S
  refine wpAny_call (codeAny_call_function hroom (X _ _ ho) rfl hco hgen rfl (codeRec_of X hcd) (hbind _ _ _ _ ?_))
  refine wpAny_newFunctionEnv_cells hk (kindsX hkind _) fun env' he s' x => ?_
  subst he
  refine ⟨(T.nolimit.keeps S.base').keeps x.toInCall.keep, codeAny_func ?_⟩
  obtain ⟨h₁, tk₁, rfl, _⟩ := x.done
  have hk₁ : ∀ a o, h.get? a = some o → h₁.get? a = some o := x.toInCall.keep
  obtain ⟨cells, NC, Y⟩ := Cl.news (h₀ := h) (Nat.le_refl _) fun n c hm => ⟨x.cell n c (lookup_of_mem_nodup (cellsFrom_names scope.names 0 (h.objs.size + 1) [] [] rfl ▸ hnd) hm), x.above n c hm⟩
  have S₁ := S.enter (gone_self h) x.toInCall.ns hk₁
  have hadr := CellsAre.adr Y
  have hnew : ∀ p ∈ cells, h.get? p.1 = none := fun p hp => (NC p hp).2.2
  have S₂ : St ⟨C.h₀, b, h, addrs mv⟩ h.objs.size b (bindL (envOfC qual scope h.objs.size f cdv).kindOf binds fun _ => none) (cells ++ mv) h₁ := { S₁ with
    bmu := fun p hp => by rcases List.mem_append.mp hp with hp | hp; exact (S.fresh (hnew p hp)).2.1; exact S₁.bmu p hp
    muin := fun p hp => by rcases List.mem_append.mp hp with hp | hp; exact (NC p hp).1; exact S₁.muin p hp
    muL := fun p hp => by rcases List.mem_append.mp hp with hp | hp; exact (NC p hp).2.1; exact S₁.muL p hp
    mund := by
      simp only [addrs, List.map_append]
      refine List.nodup_append.mpr ⟨by rw [hadr]; exact cellsFrom_nodup _ _ _ (fun _ hp => nomatch hp) List.nodup_nil, S₁.mund, fun a ha c hc e => ?_⟩
      obtain ⟨p, hp, rfl⟩ := List.mem_map.mp ha
      obtain ⟨r, hr, e2⟩ := List.mem_map.mp hc
      have := S.muin r (List.mem_append_left _ hr)
      rw [e2, ← e, hnew p hp] at this; cases this
    mufr := fun p hp => by rcases List.mem_append.mp hp with hp | hp; exact .inr (hnew p hp); exact S₁.mufr p hp
    psin := fun a ha => by simp only [addrs, List.map_append]; exact List.mem_append_right _ (S₁.psin a ha) }
  refine wpAny_mono (q h.objs.size h₁ tk₁ cells Y S₂) (fun fl s' hb => ?_) (fun _ _ e => e.elim)
  obtain ⟨h', tk', b', m', mv', rfl, S', k⟩ := hb
  exact k (S.back S')

theorem St.fzCell {c : Addr} {o : Obj} (S : St C L b m ((c, o) :: mu) h) (e : o.data = .cell (some v)) (hc : c ∉ C.ps) : ∃ b', b.Le b' ∧ St C L b' m mu h ∧ CelB b' c v :=
  ⟨_, (S.freeze0 hc).2, (S.freeze0 hc).1, CelB.put e⟩
theorem St.fzLst {d : Addr} {vs : List Value} {n : Nat} (S : St C L b m ((d, lstO vs n) :: mu) h) (hd : d ∉ C.ps) : ∃ b', b.Le b' ∧ St C L b' m mu h ∧ LstB b' d vs :=
  ⟨_, (S.freeze0 hd).2, (S.freeze0 hd).1, LstB.put⟩
theorem St.fzTup {d : Addr} {vs : List Value} {n : Nat} (S : St C L b m ((d, tupO vs n) :: mu) h) (hd : d ∉ C.ps) : ∃ b', b.Le b' ∧ St C L b' m mu h ∧ TupB b' d vs :=
  ⟨_, (S.freeze0 hd).2, (S.freeze0 hd).1, TupB.put⟩
theorem St.fzDic {d : Addr} {o : Obj} {kvs : List (Str × Value)} (S : St C L b m ((d, o) :: mu) h) (n : (d == sysModules) = false) (e : o.IsDictOf (strKind prog w) kvs) (hd : d ∉ C.ps) : ∃ b', b.Le b' ∧ St C L b' m mu h ∧ DicB prog w b' d kvs :=
  ⟨_, (S.freeze0 hd).2, (S.freeze0 hd).1, DicB.put n e⟩
end
end Mine

end
section
open PySem PySem.W PyProof.Rows PySem.Calls PySem.Spec
set_option Elab.async false
set_option maxRecDepth 100000
set_option linter.unusedVariables false
namespace Mine
def StrB (b : Sn) (a : Addr) (xs : List Str) : Prop := ∃ vs, LstB b a vs ∧ StrsAre vs xs
theorem StrB.le {b b' : Sn} {a : Addr} {xs : List Str} (x : StrB b a xs) (l : b.Le b') : StrB b' a xs := let ⟨vs, e, r⟩ := x; ⟨vs, e.le l, r⟩
def IntB (b : Sn) (a : Addr) (xs : List Int) : Prop := ∃ vs, LstB b a vs ∧ IntsAre vs xs
theorem IntB.le {b b' : Sn} {a : Addr} {xs : List Int} (x : IntB b a xs) (l : b.Le b') : IntB b' a xs := let ⟨vs, e, r⟩ := x; ⟨vs, e.le l, r⟩

section
variable {prog : Program} {w : World} {A : Around} {E : Value → Shared → Prop} {C : Cx} {L : Addr} {b : Sn} {m mg mb : Str → Option Value} {mu : Mu}
  {h h' : Heap} {gs : Array GenState} {dr : Drawn} {tk : Nat} {os : OsState} {env : Env} {x : Str} {pos : Pos} {v : Value}

theorem St.push' {T : String} {data : Data} (S : St C L b m mu h) (hf : (⟨.type T, none, data, #[]⟩ : Obj).isFreed = false) :
    ∃ d, h.objs.size = d ∧ d ∉ C.ps ∧ St C L b m ((d, ⟨.type T, none, data, #[]⟩) :: mu) (h.push ⟨.type T, none, data, #[]⟩) := ⟨_, rfl, (S.fresh (gone_self h)).2.2.2.1, S.push _ hf⟩

theorem g_newL {vs : List Value} {Q : Value → Shared → Prop} (S : St C L b m mu h) (hz : vs.length ≤ sizeLine)
    (q : ∀ D h', D ∉ C.ps → h.get? D = none → St C L b m ((D, lstO vs 0) :: mu) h' → Q (.ref D) ⟨h', gs, dr, tk, os⟩) : wpAny (model prog w) A (newList vs) Q E ⟨h, gs, dr, tk, os⟩ :=
  wpAny_newObj_type (q _ _ (S.fresh (gone_self h)).2.2.2.1 (gone_self h) (S.push _)) (by show vs.toArray.size ≤ sizeLine; rw [List.size_toArray]; exact hz)
theorem g_newT {vs : List Value} {Q : Value → Shared → Prop} (S : St C L b m mu h) (hz : vs.length ≤ sizeLine)
    (q : ∀ D h', D ∉ C.ps → h.get? D = none → St C L b m ((D, tupO vs 0) :: mu) h' → Q (.ref D) ⟨h', gs, dr, tk, os⟩) : wpAny (model prog w) A (newTuple vs) Q E ⟨h, gs, dr, tk, os⟩ :=
  wpAny_newObj_type (q _ _ (S.fresh (gone_self h)).2.2.2.1 (gone_self h) (S.push _)) (by show vs.toArray.size ≤ sizeLine; rw [List.size_toArray]; exact hz)

theorem g_addL {a c : Addr} {vs ws : List Value} {Q : Value → Shared → Prop} (S : St C L b m mu h) (hl : LstB b a vs) (hb : LstB b c ws)
    (q : ∀ D h', D ∉ C.ps → St C L b m ((D, lstO (vs ++ ws) 0) :: mu) h' → Q (.ref D) ⟨h', gs, dr, tk, os⟩) (hsz : vs.length + ws.length ≤ sizeLine) :
    wpAny (model prog w) A (binaryOp .Add (.ref a) (.ref c)) Q E ⟨h, gs, dr, tk, os⟩ := by
  obtain ⟨⟨cls, dd, data, sl⟩, ho, hc, n, hd⟩ := hl.at S
  obtain ⟨⟨cls2, dd2, data2, sl2⟩, ho2, hc2, n2, hd2⟩ := hb.at S
  simp only at hc hd hc2 hd2
  subst hc hd hc2 hd2
  have e : vs.toArray ++ ws.toArray = (vs ++ ws).toArray := by simp
  refine concat_meets ⟨_, ho, rfl⟩ ⟨_, ho2, rfl⟩ noFill_list_add seq_list_add PySem.F.slot_list_add PySem.F.entry_list_add (PySem.F.args_list_add_2 _ _) (list_addW a c vs.toArray ws.toArray n n2 dd dd2 sl sl2 (by simpa using hsz)) ⟨ho, ho2, ?_⟩
  rw [e]
  exact q _ _ (S.fresh (gone_self h)).2.2.2.1 (S.push _)

theorem StrsAre.item' {vs : List Value} {ys : List Str} (hi : StrsAre vs ys) {i : Nat} {v : Value} (h : vs[i]? = some v) : ∃ y t, v = .str y t ∧ ys[i]? = some y := StrsAre.item hi i v h
theorem StrsAre.snoc' {vs : List Value} {ys : List Str} (hi : StrsAre vs ys) (y : Str) (t : Tok) : StrsAre (vs ++ [.str y t]) (ys ++ [y]) := StrsAre.append' hi (.cons y t .nil)

-- ints
section
variable {a c : Int} {t1 t2 : Tok} {Q : Value → Shared → Prop}
theorem i_add (q : ∀ t tk', Q (.int (a + c) t) ⟨h, gs, dr, tk', os⟩) : wpAny (model prog w) A (binaryOp .Add (.int a t1) (.int c t2)) Q E ⟨h, gs, dr, tk, os⟩ := PyProof.Rows.add_int (q _ _)
theorem i_sub (q : ∀ t tk', Q (.int (a - c) t) ⟨h, gs, dr, tk', os⟩) : wpAny (model prog w) A (binaryOp .Sub (.int a t1) (.int c t2)) Q E ⟨h, gs, dr, tk, os⟩ := PyProof.Rows.sub_int (q _ _)
theorem mulOk (ha : -(2 ^ 64) < a ∧ a < 2 ^ 64) : IntMulOk a c := IntMulOk.of_left (intBits_le_64 ha.1 ha.2)
theorem i_mul (ha : -(2 ^ 64) < a ∧ a < 2 ^ 64) (q : ∀ t tk', Q (.int (a * c) t) ⟨h, gs, dr, tk', os⟩) : wpAny (model prog w) A (binaryOp .Mult (.int a t1) (.int c t2)) Q E ⟨h, gs, dr, tk, os⟩ := PyProof.Rows.mul_int (q _ _) (mulOk ha)
theorem i_mod (hc : c ≠ 0) (q : ∀ t tk', Q (.int (a.fmod c) t) ⟨h, gs, dr, tk', os⟩) : wpAny (model prog w) A (binaryOp .Mod (.int a t1) (.int c t2)) Q E ⟨h, gs, dr, tk, os⟩ := PyProof.Rows.mod_int' hc (q _ _)
theorem i_div (hc : c ≠ 0) (hs : c.natAbs < 1073741824) (q : ∀ t tk', Q (.int (a.fdiv c) t) ⟨h, gs, dr, tk', os⟩) : wpAny (model prog w) A (binaryOp .FloorDiv (.int a t1) (.int c t2)) Q E ⟨h, gs, dr, tk, os⟩ :=
  PyProof.Rows.floordiv_int hc (q _ _) (.inl (PyProof.noPylong_small hs))
theorem i_iadd (q : ∀ t tk', Q (.int (a + c) t) ⟨h, gs, dr, tk', os⟩) : wpAny (model prog w) A (inplaceOp .Add (.int a t1) (.int c t2)) Q E ⟨h, gs, dr, tk, os⟩ := PyProof.Rows.iadd_int (q _ _)
theorem i_isub (q : ∀ t tk', Q (.int (a - c) t) ⟨h, gs, dr, tk', os⟩) : wpAny (model prog w) A (inplaceOp .Sub (.int a t1) (.int c t2)) Q E ⟨h, gs, dr, tk, os⟩ := PyProof.Rows.isub_int (q _ _)
theorem i_lt (q : Q (.bool (decide (a < c))) ⟨h, gs, dr, tk, os⟩) : wpAny (model prog w) A (compareOp .Lt (.int a t1) (.int c t2)) Q E ⟨h, gs, dr, tk, os⟩ := PyProof.Rows.lt_int q
theorem i_gt (q : Q (.bool (decide (a > c))) ⟨h, gs, dr, tk, os⟩) : wpAny (model prog w) A (compareOp .Gt (.int a t1) (.int c t2)) Q E ⟨h, gs, dr, tk, os⟩ := PyProof.Rows.gt_int q
theorem i_eq (q : Q (.bool (a == c)) ⟨h, gs, dr, tk, os⟩) : wpAny (model prog w) A (compareOp .Eq (.int a t1) (.int c t2)) Q E ⟨h, gs, dr, tk, os⟩ := PyProof.Rows.eq_int q
theorem i_ne (q : Q (.bool (a != c)) ⟨h, gs, dr, tk, os⟩) : wpAny (model prog w) A (compareOp .NotEq (.int a t1) (.int c t2)) Q E ⟨h, gs, dr, tk, os⟩ := PyProof.Rows.ne_int q
end

-- items
theorem g_item {value slice : Expr} {a : Addr} {vs : List Value} {k : Int} {t : Tok} {i : Nat} {Q : Value → Shared → Prop} (S : St C L b m mu h) (hl : LstB b a vs) (hk : k = (i : Int)) (hx : vs[i]? = some v) (hz : vs.length ≤ 2 ^ 24) (q : Q v ⟨h, gs, dr, tk, os⟩)
    (hs : subscripted slice false (.ref a) (.int k t) = operate [.ref a, .int k t] (getItem (.ref a) (.int k t)) := by with_unfolding_all rfl) :
    wpAny (model prog w) A (subscriptTail value slice (.ref a) (.int k t)) Q E ⟨h, gs, dr, tk, os⟩ := by
  subst hk
  have hL := hl.at S
  have hi := (List.getElem?_eq_some_iff.mp hx).1
  exact tail_any (s := ⟨h, gs, dr, tk, os⟩) hL.typeIs slot_list_getitem.lookup (wpAny_getItem_list hL (by omega) (by omega) (by simpa using hx) q) hs
theorem g_itemT {value slice : Expr} {a : Addr} {vs : List Value} {k : Int} {t : Tok} {i : Nat} {Q : Value → Shared → Prop} (S : St C L b m mu h) (hl : TupB b a vs) (hk : k = (i : Int)) (hx : vs[i]? = some v) (hz : vs.length ≤ 2 ^ 24) (q : Q v ⟨h, gs, dr, tk, os⟩)
    (hs : subscripted slice false (.ref a) (.int k t) = operate [.ref a, .int k t] (getItem (.ref a) (.int k t)) := by with_unfolding_all rfl) :
    wpAny (model prog w) A (subscriptTail value slice (.ref a) (.int k t)) Q E ⟨h, gs, dr, tk, os⟩ := by
  subst hk
  have hL := hl.at S
  have hi := (List.getElem?_eq_some_iff.mp hx).1
  refine item_tupleT (s := ⟨h, gs, dr, tk, os⟩) (j := i) hL (by omega) (by omega) ?_ (by simpa using hx) q hs
  unfold seqIndex?
  simp
  omega
theorem g_itemD {value slice : Expr} {d : Addr} {kvs : List (Str × Value)} {k : Str} {t : Tok} {Q : Value → Shared → Prop} (S : St C L b m mu h) (hd : DicB prog w b d kvs) (hx : valueAt kvs k = some v) (q : ∀ tk', Q v ⟨h, gs, dr, tk', os⟩)
    (hs : subscripted slice false (.ref d) (.str k t) = operate [.ref d, .str k t] (getItem (.ref d) (.str k t)) := by with_unfolding_all rfl) :
    wpAny (model prog w) A (subscriptTail value slice (.ref d) (.str k t)) Q E ⟨h, gs, dr, tk, os⟩ :=
  have hD := hd.at S
  tail_any (s := ⟨h, gs, dr, tk, os⟩) hD.typeIs slot_dict_getitem.lookup (wpAny_getItem_of (strKind_is prog w k t) hD.mapOf hx (q _)) hs
theorem g_getD {d : Addr} {kvs : List (Str × Value)} {k : Str} {t : Tok} {dflt : Value} {Q : Value → Shared → Prop} (S : St C L b m mu h) (hd : DicB prog w b d kvs) (q : ∀ tk', Q ((valueAt kvs k).getD dflt) ⟨h, gs, dr, tk', os⟩) :
    wpAny (model prog w) A (call (.builtin "dict.get") [.ref d, .str k t, dflt]) Q E ⟨h, gs, dr, tk, os⟩ :=
  have hD := hd.at S
  call_meetsIn (s := ⟨h, gs, dr, tk, os⟩) PySem.F.slot_dict_get hD.typeIs PySem.F.entry_dict_get (PySem.F.args_dict_get_3 _ _ _) (meets_dict_get_default (strKind prog w) d (strKind_is prog w k t) hd.1 dflt) ⟨_, hD.mapOf, q _⟩
theorem g_getM {d : Addr} {kvs : List (Str × Value)} {pl : Sem Bool} {Q : Value × List Value → Shared → Prop} (S : St C L b m mu h) (hd : DicB prog w b d kvs) (q : Q (.builtin "dict.get", [.ref d]) ⟨h, gs, dr, tk, os⟩) :
    wpAny (model prog w) A (getMethod (.ref d) "get" pl) Q E ⟨h, gs, dr, tk, os⟩ :=
  have hD := hd.at S
  getMethod_builtin (s := ⟨h, gs, dr, tk, os⟩) hD.typeIs PySem.F.plainAttrs_dict PySem.F.slot_dict_get PySem.F.type_dict_get hD.mapOf.noDict q
theorem g_valuesM {d : Addr} {kvs : List (Str × Value)} {pl : Sem Bool} {Q : Value × List Value → Shared → Prop} (S : St C L b m mu h) (hd : DicB prog w b d kvs) (q : Q (.builtin "dict.values", [.ref d]) ⟨h, gs, dr, tk, os⟩) :
    wpAny (model prog w) A (getMethod (.ref d) "values" pl) Q E ⟨h, gs, dr, tk, os⟩ :=
  have hD := hd.at S
  getMethod_builtin (s := ⟨h, gs, dr, tk, os⟩) hD.typeIs PySem.F.plainAttrs_dict PySem.F.slot_dict_values PySem.F.type_dict_values hD.mapOf.noDict q
theorem g_itemsM {d : Addr} {kvs : List (Str × Value)} {pl : Sem Bool} {Q : Value × List Value → Shared → Prop} (S : St C L b m mu h) (hd : DicB prog w b d kvs) (q : Q (.builtin "dict.items", [.ref d]) ⟨h, gs, dr, tk, os⟩) :
    wpAny (model prog w) A (getMethod (.ref d) "items" pl) Q E ⟨h, gs, dr, tk, os⟩ :=
  have hD := hd.at S
  getMethod_builtin (s := ⟨h, gs, dr, tk, os⟩) hD.typeIs PySem.F.plainAttrs_dict PySem.F.slot_dict_items PySem.F.type_dict_items hD.mapOf.noDict q
theorem g_in {d : Addr} {kvs : List (Str × Value)} {k : Str} {t : Tok} {Q : Value → Shared → Prop} (S : St C L b m mu h) (hd : DicB prog w b d kvs) (q : ∀ tk', Q (.bool (valueAt kvs k).isSome) ⟨h, gs, dr, tk', os⟩) :
    wpAny (model prog w) A (compareOp .In (.str k t) (.ref d)) Q E ⟨h, gs, dr, tk, os⟩ := wpAny_in_of (s := ⟨h, gs, dr, tk, os⟩) (strKind_is prog w k t) hd.1 (hd.at S).mapOf (q _)

def ViewB (T : String) (b : Sn) (V d : Addr) : Prop := ∃ o, b V = some o ∧ o.cls = .type T ∧ o.data = .fields #[.ref d]
theorem g_values {d : Addr} {kvs : List (Str × Value)} {Q : Value → Shared → Prop} (S : St C L b m mu h) (hd : DicB prog w b d kvs)
    (q : ∀ V b' h', b.Le b' → St C L b' m mu h' → ViewB "dict_values" b' V d → Q (.ref V) ⟨h', gs, dr, tk, os⟩) : wpAny (model prog w) A (call (.builtin "dict.values") [.ref d]) Q E ⟨h, gs, dr, tk, os⟩ := by
  have hD := hd.at S
  refine call_meetsIn (s := ⟨h, gs, dr, tk, os⟩) PySem.F.slot_dict_values hD.typeIs PySem.F.entry_dict_values (PySem.F.args_dict_values_1 _) (meets_dict_values (strKind prog w) d hd.1) ⟨⟨_, hD⟩, ?_⟩
  have f := S.fresh (gone_self h)
  obtain ⟨S', l⟩ := (S.push { cls := .type "dict_values", data := .fields #[.ref d] }).freeze0 f.2.2.2.1
  exact q _ _ _ l S' ⟨_, Sn.put_self .., rfl, rfl⟩
theorem g_items {d : Addr} {kvs : List (Str × Value)} {Q : Value → Shared → Prop} (S : St C L b m mu h) (hd : DicB prog w b d kvs)
    (q : ∀ V b' h', b.Le b' → St C L b' m mu h' → ViewB "dict_items" b' V d → Q (.ref V) ⟨h', gs, dr, tk, os⟩) : wpAny (model prog w) A (call (.builtin "dict.items") [.ref d]) Q E ⟨h, gs, dr, tk, os⟩ := by
  have hD := hd.at S
  refine call_meetsIn (s := ⟨h, gs, dr, tk, os⟩) PySem.F.slot_dict_items hD.typeIs PySem.F.entry_dict_items (PySem.F.args_dict_items_1 _) (meets_dict_items (strKind prog w) d hd.1) ⟨⟨_, hD⟩, ?_⟩
  have f := S.fresh (gone_self h)
  obtain ⟨S', l⟩ := (S.push { cls := .type "dict_items", data := .fields #[.ref d] }).freeze0 f.2.2.2.1
  exact q _ _ _ l S' ⟨_, Sn.put_self .., rfl, rfl⟩

theorem it_vals {Q : Value → Shared → Prop} {V d : Addr} {kvs : List (Str × Value)} (S : St C L b m mu h) (hV : ViewB "dict_values" b V d) (hd : DicB prog w b d kvs)
    (q : ∀ I io h', h.get? I = none → I ∉ C.ps → St C L b m ((I, io) :: mu) h' → (∀ A' : Around, A'.handled = none → IterAt prog w A' I b kvs.length (fun i v => ∃ k, kvs[i]? = some (k, v)) h') → Q (.ref I) ⟨h', gs, dr, tk, os⟩) :
    wpAny (model prog w) A (pyIter (.ref V)) Q E ⟨h, gs, dr, tk, os⟩ := by
  obtain ⟨ep, hat⟩ := (hd.at S).dictAt
  obtain ⟨o, e1, e2, e3⟩ := hV
  have hv : Heap.IsValuesView (Shared.heap ⟨h, gs, dr, tk, os⟩) V d := ⟨o, S.bin _ _ e1, e2, e3⟩
  have hdl : d ≠ h.objs.size := Nat.ne_of_lt hat.lt_size
  obtain ⟨_, od, hod, _⟩ := hd
  refine wpAny_pyIter_values hv hat ?_
  refine q _ _ _ (gone_self h) (S.fresh (gone_self h)).2.2.2.1 (S.push _) fun A' hA' => ⟨[h.objs.size, d], fun i h' => h'.IsValIter h.objs.size d i kvs.length ep ∧ h'.DictAt (strKind prog w) d kvs ep, Walks.dictValues hA' h.objs.size d hdl kvs ep,
    ⟨⟨_, Heap.get?_push_size _ rfl, rfl, rfl⟩, hat.push _⟩, fun i h st => let ⟨o, e, _⟩ := st.1; ⟨o, e⟩, fun c hc => ?_⟩
  simp only [List.mem_cons, List.not_mem_nil, or_false] at hc
  rcases hc with rfl | rfl
  · exact .inl rfl
  · exact .inr ⟨_, hod⟩

theorem strKey {k : Str} {key : Value} (hkey : (PySem.strKind prog w).is k key = true) : ∃ t, key = .str k t := by
  cases key with
  | str y t =>
    have e : y = k := by simpa [PySem.strKind, Value.isStrOf] using hkey
    exact ⟨t, by rw [e]⟩
  | _ => cases hkey
/-- `for k, v in d.items():` -/
theorem for_items {Q : Flow → Shared → Prop} {xk xv : Str} {pk pv pt : Pos} {x1} {body : List Stmt} {V d : Addr} {kvs : List (Str × Value)} (hh : A.handled = none) (S : St C env.locals b m mu h) (hV : ViewB "dict_items" b V d) (hd : DicB prog w b d kvs)
    (J : Nat → (Str → Option Value) → Mu → Sn → Prop) (h0 : J 0 m mu b)
    (turn : ∀ i I k t v io₁ m₁ mu₁ b₁ h₁ tk₁, I ∉ C.ps → kvs[i]? = some (k, v) → J i m₁ mu₁ b₁ → b.Le b₁ → St C env.locals b₁ (upd (upd m₁ xk (.str k t)) xv v) ((I, io₁) :: mu₁) h₁ →
      wpAny (model prog w) A (execs body env) (TurnEnd C env.locals I io₁ b₁ (J (i + 1)) gs dr os Q) NE ⟨h₁, gs, dr, tk₁, os⟩)
    (done : ∀ m₁ mu₁ b₁ h₁ tk₁, J kvs.length m₁ mu₁ b₁ → b.Le b₁ → St C env.locals b₁ m₁ mu₁ h₁ → Q .next ⟨h₁, gs, dr, tk₁, os⟩)
    (hxk : env.kindOf xk = some .local := by rfl) (hxv : env.kindOf xv = some .local := by rfl) (hp : (env.scope.kind == .class || (env.scope.kind == .module && env.locals != env.globals)) = false := by rfl) :
    wpAny (model prog w) A (pyIter (.ref V)) (fun it s₂ => codeAny (model prog w) A (.forLoop (.Tuple [.Name xk pk, .Name xv pv] x1 pt) it body [] env) (forR prog w A env E Q) s₂) E ⟨h, gs, dr, tk, os⟩ := by
  obtain ⟨ep, hat⟩ := (hd.at S).dictAt
  obtain ⟨o, e1, e2, e3⟩ := hV
  have hv : Heap.IsItemsView (Shared.heap ⟨h, gs, dr, tk, os⟩) V d := ⟨o, S.bin _ _ e1, e2, e3⟩
  obtain ⟨_, od, hod, _⟩ := hd
  refine wpAny_pyIter_items hv hat ?_
  have S₀ := S.push { cls := .type "dict_itemiterator", data := .fields #[.none, .bool false, .ref d, .int 0 0, .int kvs.length 0, .int ep 0, .none, .none] }
  have hI := (S.fresh (gone_self h)).2.2.2.1
  generalize h.objs.size = I at *
  generalize h.push { cls := .type "dict_itemiterator", data := .fields #[.none, .bool false, .ref d, .int 0 0, .int kvs.length 0, .int ep 0, .none, .none] } = H0 at *
  have hdat : ∀ {b₁ m₁ mu₁ h₁}, b.Le b₁ → St C env.locals b₁ m₁ mu₁ h₁ → h₁.DictAt (strKind prog w) d kvs ep := fun l S₁ => hat.at fun o e => by
    have := S.bin _ _ hod; rw [this] at e; cases e; exact S₁.bin _ _ (l _ _ hod)
  refine codeAny_forLoop_any
    (fun n s' => ∃ h' tk' m' mu' b', ∃ i : Nat, ∃ ok ov, s' = ⟨h', gs, dr, tk', os⟩ ∧ St C env.locals b' m' ((I, { cls := .type "dict_itemiterator", dict := none, data := .fields #[.none, .bool false, .ref d, .int i 0, .int kvs.length 0, .int ep 0, ok, ov], slots := #[] }) :: mu') h' ∧ b.Le b' ∧ J i m' mu' b' ∧ i ≤ kvs.length ∧ n = kvs.length + 1 - i) ?_ (kvs.length + 1)
    ⟨H0, tk, m, mu, b, 0, .none, .none, rfl, S₀, Sn.Le.refl _, h0, Nat.zero_le _, rfl⟩
  rintro n s' ⟨H, tk', m', mu', b', i, ok, ov, rfl, S', hb', hJ, hi, rfl⟩
  have hit' : IsItemIter H I d i kvs.length ep ok ov := S'.muin _ (List.mem_cons_self ..)
  have hm' := hdat hb' S'
  cases hv : kvs[i]? with
  | none =>
    have hsz : i = kvs.length := Nat.le_antisymm hi (by simpa using hv)
    refine wpAny_pyNext_items_end hh hit' hm' hv fun h₁ he₁ => wpAny_execs_nil ?_
    have hm : ∀ p ∈ mu', p.1 ≠ I := (nodup_mid (mu1 := []) S'.mund).1
    have hg : C.g.get? I = none := (S'.mufr _ (List.mem_cons_self ..)).resolve_left hI
    refine done m' mu' b' h₁ _ (hsz ▸ hJ) hb' ?_
    exact St.off (C' := C) (L' := I) (b' := b) (m' := m) (mu' := mu) (S'.drop0 hI) (Ne.symm (S'.muL _ (List.mem_cons_self ..))) (S'.bmu _ (List.mem_cons_self ..)) hm hg he₁
  | some kv =>
    obtain ⟨k, v⟩ := kv
    have hlt : i < kvs.length := (List.getElem?_eq_some_iff.mp hv).1
    refine wpAny_pyNext_items_item hit' hm' hv fun key h₁ hkey heo ht₁ hz₁ hk₁ => ?_
    have hIH : I < H.objs.size := Heap.lt_size hit'
    refine wpAny_letOwnedTupleGo_items heo fun h₂ he₂ hs₂ => ?_
    replace hs₂ : Heap.SameBut I h₁ h₂ := hs₂
    have ht₂ : h₂.IsTuple H.objs.size #[key, v] := ⟨_, (hs₂.2 _ (Nat.ne_of_gt hIH)).trans ht₁, rfl, _, rfl⟩
    refine wpAny_assign_Tuple hh ht₂ rfl rfl fun h₃ hx₃ => ?_
    replace hx₃ : Heap.ExtBut h₂.objs.size h₂ h₃ := hx₃
    have k23 : ∀ a o, h₂.get? a = some o → h₃.get? a = some o := fun a o e => hx₃ a o (Nat.ne_of_lt (Heap.lt_size e)) e
    have S₂ := St.mut (mu1 := []) S' (h' := h₃) (k23 _ _ he₂) fun a o n e => k23 a o (hs₂.extBut a o n (hk₁ a o n e))
    show wpAny _ _ (do holding [v] (assign (.Name xk pk) env key); do holding [] (assign (.Name xv pv) env v); pure ()) _ _ _
    refine wpAny_bind (wpAny_holding (wpAny_assign_Name (wpAny_storeName_local hxk S₂.ns (fun h₄ hn₄ hs₄ => ?_) hp)))
    have S₃ := S₂.locS hn₄ hs₄
    refine wpAny_bind (wpAny_holding (wpAny_assign_Name (wpAny_storeName_local hxv S₃.ns (fun h₅ hn₅ hs₅ => wpAny_pure ?_) hp)))
    have S₄ := S₃.locS hn₅ hs₅
    obtain ⟨t, rfl⟩ := strKey hkey
    refine wpAny_mono (turn i I k t v _ m' mu' b' h₅ _ hI hv hJ hb' S₄) (fun fl s₃ he => ?_) fun _ _ e => e.elim
    have fin : (∃ h₂ tk₂ m₂ mu₂ b₂, s₃ = ⟨h₂, gs, dr, tk₂, os⟩ ∧ St C env.locals b₂ m₂ ((I, { cls := .type "dict_itemiterator", dict := none, data := .fields #[.none, .bool false, .ref d, .int ((i + 1 : Nat) : Int) 0, .int kvs.length 0, .int ep 0, .str k t, v], slots := #[] }) :: mu₂) h₂ ∧ b'.Le b₂ ∧ J (i + 1) m₂ mu₂ b₂) →
        ∃ m, m < kvs.length + 1 - i ∧ ∃ h' tk' m' mu' b', ∃ i : Nat, ∃ ok ov, s₃ = ⟨h', gs, dr, tk', os⟩ ∧ St C env.locals b' m' ((I, { cls := .type "dict_itemiterator", dict := none, data := .fields #[.none, .bool false, .ref d, .int i 0, .int kvs.length 0, .int ep 0, ok, ov], slots := #[] }) :: mu') h' ∧ b.Le b' ∧ J i m' mu' b' ∧ i ≤ kvs.length ∧ m = kvs.length + 1 - i := by
      rintro ⟨h₆, tk₆, m₆, mu₆, b₆, rfl, S₆, l₆, J₆⟩
      exact ⟨kvs.length + 1 - (i + 1), by omega, h₆, tk₆, m₆, mu₆, b₆, i + 1, _, _, rfl, S₆, hb'.trans l₆, J₆, hlt, rfl⟩
    cases fl with
    | ret v => exact he
    | brk => exact he
    | next => exact fin he
    | cont => exact fin he
end
end Mine

end
section
open PySem PySem.W PyProof.Rows PySem.Calls PySem.Spec
set_option Elab.async false
set_option maxRecDepth 100000
set_option linter.unusedVariables false
namespace Mine
inductive All2 {α β : Type} (R : α → β → Prop) : List α → List β → Prop
  | nil : All2 R [] []
  | cons {x y xs ys} : R x y → All2 R xs ys → All2 R (x :: xs) (y :: ys)
section
variable {α β : Type} {R R' : α → β → Prop}
theorem All2.length : ∀ {xs : List α} {ys : List β}, All2 R xs ys → xs.length = ys.length
  | _, _, .nil => rfl
  | _, _, .cons _ t => by simp [t.length]
theorem All2.get : ∀ {xs : List α} {ys : List β}, All2 R xs ys → ∀ {i : Nat} {x : α}, xs[i]? = some x → ∃ y, ys[i]? = some y ∧ R x y
  | _, _, .nil, i, x, e => by simp at e
  | _, _, .cons (y := y) h t, 0, x, e => by simp at e; subst e; exact ⟨y, rfl, h⟩
  | _, _, .cons h t, i + 1, x, e => by simp at e; obtain ⟨y, e', r⟩ := t.get e; exact ⟨y, by simpa using e', r⟩
theorem All2.get' : ∀ {xs : List α} {ys : List β}, All2 R xs ys → ∀ {i : Nat} {y : β}, ys[i]? = some y → ∃ x, xs[i]? = some x ∧ R x y
  | _, _, .nil, i, x, e => by simp at e
  | _, _, .cons (x := x) h t, 0, y, e => by simp at e; subst e; exact ⟨x, rfl, h⟩
  | _, _, .cons h t, i + 1, x, e => by simp at e; obtain ⟨y, e', r⟩ := t.get' e; exact ⟨y, by simpa using e', r⟩
theorem All2.append : ∀ {xs : List α} {ys : List β} {xs' : List α} {ys' : List β}, All2 R xs ys → All2 R xs' ys' → All2 R (xs ++ xs') (ys ++ ys')
  | _, _, _, _, .nil, h => h
  | _, _, _, _, .cons h t, h' => .cons h (t.append h')
theorem All2.snoc {xs : List α} {ys : List β} {x : α} {y : β} (t : All2 R xs ys) (h : R x y) : All2 R (xs ++ [x]) (ys ++ [y]) := t.append (.cons h .nil)
theorem All2.mono (k : ∀ x y, R x y → R' x y) : ∀ {xs : List α} {ys : List β}, All2 R xs ys → All2 R' xs ys
  | _, _, .nil => .nil
  | _, _, .cons h t => .cons (k _ _ h) (t.mono k)
theorem All2.drop : ∀ {xs : List α} {ys : List β}, All2 R xs ys → ∀ n, All2 R (xs.drop n) (ys.drop n)
  | _, _, h, 0 => h
  | _, _, .nil, n + 1 => .nil
  | _, _, .cons _ t, n + 1 => t.drop n
theorem All2.take : ∀ {xs : List α} {ys : List β}, All2 R xs ys → ∀ n, All2 R (xs.take n) (ys.take n)
  | _, _, h, 0 => .nil
  | _, _, .nil, n + 1 => .nil
  | _, _, .cons h t, n + 1 => .cons h (t.take n)
theorem All2.reverse : ∀ {xs : List α} {ys : List β}, All2 R xs ys → All2 R xs.reverse ys.reverse
  | _, _, .nil => .nil
  | _, _, .cons h t => by simp only [List.reverse_cons]; exact t.reverse.snoc h
end
theorem IntsAre.all2 {R : Value → Int → Prop} (k : ∀ i t, R (.int i t) i) {vs : List Value} {ns : List Int} (h : IntsAre vs ns) : All2 R vs ns := by
  induction h with
  | nil => exact .nil
  | cons n t _ ih => exact .cons (k n t) ih
theorem StrsAre.all2 {R : Value → Str → Prop} (k : ∀ i t, R (.str i t) i) {vs : List Value} {ns : List Str} (h : StrsAre vs ns) : All2 R vs ns := by
  induction h with
  | nil => exact .nil
  | cons n t _ ih => exact .cons (k n t) ih

def IsI (_b : Sn) (v : Value) (i : Int) : Prop := ∃ t, v = .int i t
def IsS (_b : Sn) (v : Value) (s : Str) : Prop := ∃ t, v = .str s t
def LsOf {α : Type} (R : Sn → Value → α → Prop) (b : Sn) (v : Value) (xs : List α) : Prop := ∃ a vs, v = .ref a ∧ LstB b a vs ∧ All2 (R b) vs xs
def TpOf {α β : Type} (R : Sn → Value → α → Prop) (R' : Sn → Value → β → Prop) (b : Sn) (v : Value) (p : α × β) : Prop := ∃ a x y, v = .ref a ∧ TupB b a [x, y] ∧ R b x p.1 ∧ R' b y p.2
def DcOf {α : Type} (prog : Program) (w : World) (R : Sn → Value → α → Prop) (b : Sn) (v : Value) (kvs : List (Str × α)) : Prop :=
  ∃ d es, v = .ref d ∧ DicB prog w b d es ∧ All2 (fun p q => p.1 = q.1 ∧ R b p.2 q.2) es kvs
def Mono {α : Type} (R : Sn → Value → α → Prop) : Prop := ∀ b b' v x, b.Le b' → R b v x → R b' v x
theorem monoI : Mono IsI := fun _ _ _ _ _ h => h
theorem monoS : Mono IsS := fun _ _ _ _ _ h => h
theorem monoL {α : Type} {R : Sn → Value → α → Prop} (k : Mono R) : Mono (LsOf R) := fun b b' v x l ⟨a, vs, e, h, r⟩ => ⟨a, vs, e, h.le l, r.mono fun _ _ => k _ _ _ _ l⟩
theorem monoT {α β : Type} {R : Sn → Value → α → Prop} {R' : Sn → Value → β → Prop} (k : Mono R) (k' : Mono R') : Mono (TpOf R R') := fun b b' v x l ⟨a, y, z, e, h, r, r'⟩ => ⟨a, y, z, e, h.le l, k _ _ _ _ l r, k' _ _ _ _ l r'⟩
theorem monoD {α : Type} {prog : Program} {w : World} {R : Sn → Value → α → Prop} (k : Mono R) : Mono (DcOf prog w R) := fun b b' v x l ⟨a, vs, e, h, r⟩ => ⟨a, vs, e, h.le l, r.mono fun _ _ q => ⟨q.1, k _ _ _ _ l q.2⟩⟩

/-- a dict's look-up, plainly -/
def look {α : Type} (kvs : List (Str × α)) (k : Str) : Option α := (kvs.find? fun kv => kv.1 = k).map (·.2)
theorem valueAt_look {α : Type} {R : Value → α → Prop} {k : Str} : ∀ {es : List (Str × Value)} {kvs : List (Str × α)}, All2 (fun p q => p.1 = q.1 ∧ R p.2 q.2) es kvs →
    (look kvs k = none → valueAt es k = none) ∧ ∀ x, look kvs k = some x → ∃ v, valueAt es k = some v ∧ R v x
  | _, _, .nil => ⟨fun _ => rfl, fun x e => by simp [look] at e⟩
  | _, _, .cons (x := (k1, v1)) (y := (k2, x2)) ⟨e, r⟩ t => by
    simp only at e r
    subst e
    obtain ⟨h1, h2⟩ := valueAt_look (k := k) t
    by_cases hk : k1 = k
    · subst hk
      refine ⟨fun e => by simp [look] at e, fun x e => ?_⟩
      simp [look] at e; subst e
      exact ⟨v1, by simp [valueAt], r⟩
    · have hk' : (decide (k1 = k)) = false := decide_eq_false hk
      refine ⟨fun e => ?_, fun x e => ?_⟩
      · have := h1 (by simpa [look, List.find?_cons, hk'] using e)
        simpa [valueAt, List.find?_cons, hk'] using this
      · obtain ⟨v, e1, r1⟩ := h2 x (by simpa [look, List.find?_cons, hk'] using e)
        exact ⟨v, by simpa [valueAt, List.find?_cons, hk'] using e1, r1⟩
end Mine

end
section
open PySem PySem.W PyProof.Rows PySem.Calls PySem.Spec
set_option Elab.async false
set_option maxRecDepth 100000
set_option linter.unusedVariables false
namespace Mine
theorem Glb.to {w : World} {mg mb : Str → Option Value} {h0 h0' : Heap} (G : Glb w mg mb h0) (e : h0' = h0 := by rfl) : Glb w mg mb h0' := e ▸ G
section
variable {prog : Program} {w : World} {A : Around} {E : Value → Shared → Prop} {C : Cx} {L : Addr} {b : Sn} {m mg mb : Str → Option Value} {mu mu1 mu2 : Mu}
  {h h' : Heap} {gs : Array GenState} {dr : Drawn} {tk : Nat} {os : OsState} {env : Env} {x : Str} {pos : Pos} {v : Value}

theorem g_lo (G : Glb w mg mb C.h₀) (S : St C L b m mu h) : (h.objs.size == sysModules) = false := by
  obtain ⟨p, loose, mean, T⟩ := G.T
  obtain ⟨mc, hn, _⟩ := T.nolimit
  obtain ⟨o, es, ep, e, _⟩ := hn
  have hc := Heap.lt_size (S.base' _ _ e)
  refine beq_eq_false_iff_ne.mpr fun q => ?_
  rw [q] at hc
  exact absurd hc (by decide)

theorem isDict_new : (⟨.type "dict", none, .dict #[] 0, #[]⟩ : Obj).IsDictOf (PySem.strKind prog w) [] := by
  obtain ⟨o, ho, hd⟩ := Heap.dictOf_iff.mp (Heap.DictOf.new (knd := PySem.strKind prog w) ({} : Heap))
  rw [Heap.get?_push_size _ rfl] at ho
  exact (Option.some.inj ho) ▸ hd

theorem g_newD {pos} {Q : Value → Shared → Prop} (G : Glb w mg mb C.h₀) (S : St C L b m mu h)
    (q : ∀ D o h', D ∉ C.ps → (D == sysModules) = false → o.IsDictOf (PySem.strKind prog w) [] → St C L b m ((D, o) :: mu) h' → Q (.ref D) ⟨h', gs, dr, tk, os⟩) :
    wpAny (model prog w) A (eval (.Dict [] [] pos) env) Q E ⟨h, gs, dr, tk, os⟩ :=
  wpAny_Dict_empty (q _ _ _ (S.fresh (gone_self h)).2.2.2.1 (g_lo G S) isDict_new (S.push _))

theorem g_setD {d : Addr} {o : Obj} {kvs : List (Str × Value)} {k : Str} {t : Tok} {Q : Unit → Shared → Prop} (S : St C L b m (mu1 ++ (d, o) :: mu2) h) (hd : o.IsDictOf (PySem.strKind prog w) kvs) (hz : kvs.length ≤ sizeLine)
    (q : ∀ o' h' tk', o'.IsDictOf (PySem.strKind prog w) (stored kvs k v) → St C L b m (mu1 ++ (d, o') :: mu2) h' → Q () ⟨h', gs, dr, tk', os⟩) :
    wpAny (model prog w) A (setItem (.ref d) (.str k t) v) Q E ⟨h, gs, dr, tk, os⟩ := by
  have ho := S.muin (d, o) (by simp)
  refine wpAny_setItem_pairs (s := ⟨h, gs, dr, tk, os⟩) (hsz := hz) (strKind_is prog w k t) (Heap.dictOf_iff.mpr ⟨o, ho, hd⟩) fun h' hmm hs => ?_
  obtain ⟨o', ho', hd'⟩ := Heap.dictOf_iff.mp hmm
  exact q o' h' _ hd' (S.mut ho' fun a x n e => hs.extBut a x n e)
theorem g_setD0 {d : Addr} {o : Obj} {kvs : List (Str × Value)} {k : Str} {t : Tok} {Q : Unit → Shared → Prop} (S : St C L b m ((d, o) :: mu2) h) (hd : o.IsDictOf (PySem.strKind prog w) kvs) (hz : kvs.length ≤ sizeLine)
    (q : ∀ o' h' tk', o'.IsDictOf (PySem.strKind prog w) (stored kvs k v) → St C L b m ((d, o') :: mu2) h' → Q () ⟨h', gs, dr, tk', os⟩) :
    wpAny (model prog w) A (setItem (.ref d) (.str k t) v) Q E ⟨h, gs, dr, tk, os⟩ := g_setD (mu1 := []) S hd hz q
theorem g_setD1 {p : Addr × Obj} {d : Addr} {o : Obj} {kvs : List (Str × Value)} {k : Str} {t : Tok} {Q : Unit → Shared → Prop} (S : St C L b m (p :: (d, o) :: mu2) h) (hd : o.IsDictOf (PySem.strKind prog w) kvs) (hz : kvs.length ≤ sizeLine)
    (q : ∀ o' h' tk', o'.IsDictOf (PySem.strKind prog w) (stored kvs k v) → St C L b m (p :: (d, o') :: mu2) h' → Q () ⟨h', gs, dr, tk', os⟩) :
    wpAny (model prog w) A (setItem (.ref d) (.str k t) v) Q E ⟨h, gs, dr, tk, os⟩ := g_setD (mu1 := [p]) S hd hz q

theorem mD (S : St C L b m mu h) {d : Addr} {o : Obj} {kvs : List (Str × Value)} (hm : (d, o) ∈ mu) (hd : o.IsDictOf (PySem.strKind prog w) kvs) : h.DictOf (PySem.strKind prog w) d kvs := Heap.dictOf_iff.mpr ⟨o, S.muin _ hm, hd⟩
theorem g_getMu {d : Addr} {o : Obj} {kvs : List (Str × Value)} {k : Str} {t : Tok} {Q : Value → Shared → Prop} (S : St C L b m mu h) (hm : (d, o) ∈ mu) (hd : o.IsDictOf (PySem.strKind prog w) kvs) (hx : valueAt kvs k = some v) (q : ∀ tk', Q v ⟨h, gs, dr, tk', os⟩) :
    wpAny (model prog w) A (getItem (.ref d) (.str k t)) Q E ⟨h, gs, dr, tk, os⟩ := wpAny_getItem_of (s := ⟨h, gs, dr, tk, os⟩) (strKind_is prog w k t) (mD S hm hd).mapOf hx (q _)
theorem g_subMu {value slice : Expr} {d : Addr} {o : Obj} {kvs : List (Str × Value)} {k : Str} {t : Tok} {Q : Value → Shared → Prop} (S : St C L b m mu h) (hm : (d, o) ∈ mu) (hd : o.IsDictOf (PySem.strKind prog w) kvs) (hx : valueAt kvs k = some v) (q : ∀ tk', Q v ⟨h, gs, dr, tk', os⟩)
    (hs : subscripted slice false (.ref d) (.str k t) = operate [.ref d, .str k t] (getItem (.ref d) (.str k t)) := by with_unfolding_all rfl) :
    wpAny (model prog w) A (subscriptTail value slice (.ref d) (.str k t)) Q E ⟨h, gs, dr, tk, os⟩ :=
  have hD := mD S hm hd
  tail_any (s := ⟨h, gs, dr, tk, os⟩) hD.typeIs slot_dict_getitem.lookup (wpAny_getItem_of (strKind_is prog w k t) hD.mapOf hx (q _)) hs
theorem g_inMu {d : Addr} {o : Obj} {kvs : List (Str × Value)} {k : Str} {t : Tok} {Q : Value → Shared → Prop} (S : St C L b m mu h) (hm : (d, o) ∈ mu) (hlo : (d == sysModules) = false) (hd : o.IsDictOf (PySem.strKind prog w) kvs) (q : ∀ tk', Q (.bool (valueAt kvs k).isSome) ⟨h, gs, dr, tk', os⟩) :
    wpAny (model prog w) A (compareOp .In (.str k t) (.ref d)) Q E ⟨h, gs, dr, tk, os⟩ := wpAny_in_of (s := ⟨h, gs, dr, tk, os⟩) (strKind_is prog w k t) hlo (mD S hm hd).mapOf (q _)

theorem g_isiTup {n : Int} {u : Tok} {Q : Value → Shared → Prop} (q : ∀ tk', Q (.bool false) ⟨h, gs, dr, tk', os⟩) : wpAny (model prog w) A (call (.builtin "isinstance") [.int n u, .type "tuple"]) Q E ⟨h, gs, dr, tk, os⟩ := IsiPair.int_tuple (s := ⟨h, gs, dr, tk, os⟩) (q _)

/-- `{k: v}` -/
theorem g_dict1 {ke ve : Expr} {pos : Pos} {Q : Value → Shared → Prop} (G : Glb w mg mb C.h₀) (S : St C L b m mu h)
    (q : ∀ D o h', D ∉ C.ps → (D == sysModules) = false → o.IsDictOf (PySem.strKind prog w) [] → St C L b m ((D, o) :: mu) h' →
      wpAny (model prog w) A (eval ke env) (fun kv s₁ => wpAny (model prog w) A (eval ve env) (fun vv s₂ => ∃ h₂ tk₂ b₂ k t, kv = .str k t ∧ s₂ = ⟨h₂, gs, dr, tk₂, os⟩ ∧ St C L b₂ m ((D, o) :: mu) h₂ ∧
        ∀ o' h₃ tk₃, o'.IsDictOf (PySem.strKind prog w) [(k, vv)] → St C L b₂ m ((D, o') :: mu) h₃ → Q (.ref D) ⟨h₃, gs, dr, tk₃, os⟩) E s₁) E ⟨h', gs, dr, tk, os⟩) :
    wpAny (model prog w) A (eval (.Dict [some ke] [ve] pos) env) Q E ⟨h, gs, dr, tk, os⟩ := by
  refine wpAny_Dict_walk (knd := PySem.strKind prog w) rfl rfl (by simp) (by simp) (pairTrees_cons_walk ?_)
  have hfr := (S.fresh (gone_self h)).2.2.2.1
  refine wpAny_mono (q h.objs.size _ _ hfr (g_lo G S) isDict_new (S.push _)) (fun kv s₁ h1 => wpAny_mono h1 (fun vv s₂ h2 => pairTrees_nil_walk ?_) fun _ _ e => e) fun _ _ e => e
  obtain ⟨h₂, tk₂, b₂, k, t, rfl, rfl, S₂, k2⟩ := h2
  refine display_done_str rfl (by simp [strPairs]) (mD S₂ (List.mem_cons_self ..) isDict_new) fun h₃ hm hs => ?_
  obtain ⟨o', ho', hd'⟩ := Heap.dictOf_iff.mp hm
  exact k2 o' h₃ _ hd' (St.mut (mu1 := []) S₂ ho' fun a x n e => hs.extBut a x n e)
end
end Mine

end
section
open PySem PySem.W PyProof.Rows PySem.Calls PySem.Spec
set_option Elab.async false
set_option maxRecDepth 100000
set_option linter.unusedVariables false
namespace Mine
def LsO (o : Obj) (vs : List Value) : Prop := o.cls = .type "list" ∧ ∃ n, o.data = .seq vs.toArray n
theorem LsO.lst (vs : List Value) (n : Nat) : LsO (lstO vs n) vs := ⟨rfl, n, rfl⟩
section
variable {prog : Program} {w : World} {A : Around} {E : Value → Shared → Prop} {C : Cx} {L : Addr} {b : Sn} {m mg mb : Str → Option Value} {mu mu1 mu2 : Mu}
  {h h' : Heap} {gs : Array GenState} {dr : Drawn} {tk : Nat} {os : OsState} {env : Env} {x : Str} {pos : Pos} {v : Value}

theorem LsO.at {d : Addr} {o : Obj} {vs : List Value} (k : LsO o vs) (S : St C L b m mu h) (hm : (d, o) ∈ mu) : h.IsList d vs.toArray := let ⟨e, n, e'⟩ := k; ⟨o, S.muin _ hm, e, n, e'⟩
theorem LsO.fz {d : Addr} {o : Obj} {vs : List Value} (k : LsO o vs) (S : St C L b m ((d, o) :: mu) h) (hd : d ∉ C.ps) : ∃ b', b.Le b' ∧ St C L b' m mu h ∧ LstB b' d vs :=
  ⟨_, (S.freeze0 hd).2, (S.freeze0 hd).1, ⟨_, Sn.put_self .., k.1, k.2⟩⟩

theorem g_len {a : Addr} {vs : List Value} {Q : Value → Shared → Prop} (hl : h.IsList a vs.toArray) (hz : vs.length ≤ 2 ^ 24) (q : ∀ t tk', Q (.int (vs.length : Int) t) ⟨h, gs, dr, tk', os⟩) :
    wpAny (model prog w) A (call (.builtin "len") [.ref a]) Q E ⟨h, gs, dr, tk, os⟩ :=
  call_len_list (s := ⟨h, gs, dr, tk, os⟩) hl (by simp; omega) (by simpa using q _ _)
/-- `len(e)` -/
theorem g_lenE {e : Expr} {p1 p2 : Pos} {Q : Value → Shared → Prop} (G : Glb w mg mb C.h₀) (S : St C L b m mu h) (ee : nsIn (hd.heap_39 w.params) mainGlobals "len" = some none)
    (q : wpAny (model prog w) A (eval e env) (fun v s₁ => wpAny (model prog w) A (call (.builtin "len") [v]) Q E s₁) E ⟨h, gs, dr, tk, os⟩)
    (hg : env.globals = mainGlobals := by rfl) (hb : env.builtins = builtinsNs := by rfl) (hk : env.scope.kind = .function := by rfl) (hx : env.kindOf "len" = some .globalImplicit := by rfl)
    (he : starEach [e] env = (false, eval e env) :: starEach [] env := by rfl) :
    wpAny (model prog w) A (eval (.Call (.Name "len" p1) [e] [] p2) env) Q E ⟨h, gs, dr, tk, os⟩ :=
  Call_ (nmB G S ee boot_len (PyProof.Rows.callWith_builtin1 (by rw [he]; exact spliced_cons (wpAny_mono q (fun _ _ h₁ => spliced_nil h₁) fun _ _ e => e)) he) (hg := hg) (hb := hb) (hk := hk) (hx := hx))

/-- `for x in range(e)` : the iterator -/
theorem g_rangeE {e : Expr} {p1 p2 : Pos} {n : Nat} {Q : Value → Shared → Prop} (G : Glb w mg mb C.h₀) (S : St C L b m mu h) (ee : nsIn (hd.heap_39 w.params) mainGlobals "range" = some none) (hn : n < 2 ^ 61)
    (q : wpAny (model prog w) A (eval e env) (fun v s₁ => ∃ h₁ tk₁ b₁ t, s₁ = ⟨h₁, gs, dr, tk₁, os⟩ ∧ v = .int (n : Int) t ∧ St C L b₁ m mu h₁ ∧
      ∀ I io b' h' tk', b₁.Le b' → h'.get? I = some io → I ∉ C.ps → St C L b' m ((I, io) :: mu) h' → (∀ A' : Around, A'.handled = none → IterAt prog w A' I b' n (fun i v => ∃ t, v = .int (i : Int) t) h') → Q (.ref I) ⟨h', gs, dr, tk', os⟩) E ⟨h, gs, dr, tk, os⟩)
    (hg : env.globals = mainGlobals := by rfl) (hb : env.builtins = builtinsNs := by rfl) (hk : env.scope.kind = .function := by rfl) (hx : env.kindOf "range" = some .globalImplicit := by rfl)
    (he : starEach [e] env = (false, eval e env) :: starEach [] env := by rfl) :
    wpAny (model prog w) A (eval (.Call (.Name "range" p1) [e] [] p2) env) (fun xv s₁ => wpAny (model prog w) A (pyIter xv) Q E s₁) E ⟨h, gs, dr, tk, os⟩ := by
  refine Call_ (nmB G S ee boot_range ?_ (hg := hg) (hb := hb) (hk := hk) (hx := hx))
  rw [he]
  refine PySem.callWith_type rfl (evalArgs_plain (spliced_cons (wpAny_mono q (fun v s₁ h₁ => spliced_nil ?_) fun _ _ e => e)))
  obtain ⟨h₁, tk₁, b₁, t, rfl, rfl, S₁, k⟩ := h₁
  refine call_rng S₁ fun r b' h' tk' l S' hr => ?_
  refine it_rng S' hr hn fun I io h'' _ hI S'' W => ?_
  exact k I io b' h'' tk' l (S''.muin (I, io) (by simp)) hI S'' W

theorem g_appM {d : Addr} {o : Obj} {pl : Sem Bool} {Q : Value × List Value → Shared → Prop} (S : St C L b m mu h) (hm : (d, o) ∈ mu) (hc : o.cls = .type "list") (hn : o.dict = none) (q : Q (.builtin "list.append", [.ref d]) ⟨h, gs, dr, tk, os⟩) :
    wpAny (model prog w) A (getMethod (.ref d) "append" pl) Q E ⟨h, gs, dr, tk, os⟩ :=
  getMethod_builtin (s := ⟨h, gs, dr, tk, os⟩) ⟨_, S.muin _ hm, hc⟩ PySem.F.plainAttrs_list PySem.F.slot_list_append PySem.F.type_list_append (fun a e => by cases e; exact ⟨_, S.muin _ hm, hn⟩) q
theorem g_app {d : Addr} {vs : List Value} {k : Nat} {Q : Value → Shared → Prop} (S : St C L b m (mu1 ++ (d, lstO vs k) :: mu2) h) (hz : vs.length ≤ 1000000)
    (q : ∀ k' h', St C L b m (mu1 ++ (d, lstO (vs ++ [v]) k') :: mu2) h' → Q .none ⟨h', gs, dr, tk, os⟩) :
    wpAny (model prog w) A (call (.builtin "list.append") [.ref d, v]) Q E ⟨h, gs, dr, tk, os⟩ := by
  have hm : (d, lstO vs k) ∈ mu1 ++ (d, lstO vs k) :: mu2 := by simp
  refine wpAny_list_append_plain (s := ⟨h, gs, dr, tk, os⟩) (hsz := by simp only [List.size_toArray]; rw [sizeLine_eq]; omega) ⟨k, S.muin _ hm⟩ fun h₅ hl₅ hs₅ => ?_
  obtain ⟨c', hl₅⟩ := hl₅
  exact q c' h₅ (S.mut (by rw [hl₅]; simp [lstO]) fun a o n e => hs₅.extBut a o n e)
end
end Mine

end
section
open PySem PySem.W PyProof.Rows PySem.Calls PySem.Spec
set_option Elab.async false
set_option maxRecDepth 100000
set_option maxHeartbeats 1000000
set_option linter.unusedVariables false
namespace Mine
theorem filled9 : PySem.Challenge.rw_xo0020_01 = PySem.Challenge.rw_xo0020_01 ∧ Mine.hd.heap_39 = Mine.hd.heap_39 := by k_fill; exact ⟨rfl, rfl⟩

theorem re_plainAttrs : PlainAttrs "re.Pattern" :=
  ⟨⟨"object.__getattribute__", by rw [typeLookup_type, builtinLookup_eq_fast]; kernel_rfl, by decide +kernel⟩, by rw [typeLookup_type, builtinLookup_eq_fast]; kernel_rfl⟩
theorem re_slot_search : Slot "re.Pattern" "search" "re.Pattern.search" :=
  .of (owner := "re.Pattern") (n := "search") (by rw [typeLookup_type, builtinLookup_eq_fast]; kernel_rfl) (by decide +kernel) (by decide +kernel) (by decide +kernel)
    (by first | exact .inl (by decide +kernel) | exact .inr (by decide +kernel)) (by rw [isSubtype_type]; kernel_rfl)
theorem re_type_search : typeOf (.builtin "re.Pattern.search") = pure (.type "method_descriptor") := by show builtinType _ = _; rw [builtinType_eq_fast]; kernel_rfl
theorem re_entry_search : entryFor table "re.Pattern.search" = some Builtin.«re.Pattern.search» := entryFor_of_tree (by kernel_rfl)
theorem re_args_search (a b : Value) : argsOk "re.Pattern.search" ⟨[a, b], []⟩ := by
  unfold argsOk; rw [signature?_of (id := "re.Pattern.search") (n := ['h', 'c', 'r', 'a', 'e', 's']) (o := ['n', 'r', 'e', 't', 't', 'a', 'P', '.', 'e', 'r']) (rows := Manifest.sig_re_Pattern) (by kernel_rfl) (by kernel_rfl)]; kernel_rfl

def turnsTo : Nat → Sre.M → Option Sre.M
  | 0, m => if (m.runFor Builtin.Re.reTurnSteps).outcome.isSome then some (m.runFor Builtin.Re.reTurnSteps) else none
  | n + 1, m => if (m.runFor Builtin.Re.reTurnSteps).outcome.isSome then some (m.runFor Builtin.Re.reTurnSteps) else turnsTo n (m.runFor Builtin.Re.reTurnSteps)
def isFailed (o : Option Sre.M) : Bool := match o with | some m => (match m.outcome with | some .failed => true | _ => false) | none => false
def reCode : Array Nat := #[14, 8, 1, 2, 4294967295, 1, 1, 46, 0, 16, 46, 24, 9, 1, 4294967295, 13, 4, 8, 0, 0, 1, 6, 5, 1]
def reGo (t : Str) : Bool := isFailed (turnsTo 60 (Sre.forSearch reCode t.cps 0 (min (0 : Int).toNat t.cps.size) (min (2 ^ 63 - 1 : Int).toNat t.cps.size) false))

section
variable {M : Model} {A : Around} {E : Value → Shared → Prop} {s : Shared}
theorem reDrive_goes {Q : Sre.M → Shared → Prop} : ∀ (k n : Nat) (m m' : Sre.M), k < n → turnsTo k m = some m' → Q m' s → wpAny M A (Builtin.Re.reDrive n m) Q E s
  | k, 0, m, m', h, _, _ => absurd h (Nat.not_lt_zero _)
  | 0, n + 1, m, m', h, e, q => by
    unfold turnsTo at e
    unfold Builtin.Re.reDrive
    split at e
    · rename_i h1
      simp only [h1, if_true]
      cases e
      exact wpAny_pure q
    · cases e
  | k + 1, n + 1, m, m', h, e, q => by
    unfold turnsTo at e
    unfold Builtin.Re.reDrive
    by_cases h1 : (m.runFor Builtin.Re.reTurnSteps).outcome.isSome = true
    · simp only [h1, if_true] at e ⊢
      cases e
      exact wpAny_pure q
    · simp only [h1] at e ⊢
      exact wpAny_bind (wpAny_rule (reDrive_goes k n _ m' (Nat.lt_of_succ_lt_succ h) (by simpa using e) q))
theorem turnsTo_outcome : ∀ (k : Nat) (m m' : Sre.M), turnsTo k m = some m' → m'.outcome.isSome = true
  | 0, m, m', e => by
    unfold turnsTo at e
    split at e
    · rename_i h1; cases e; exact h1
    · cases e
  | k + 1, m, m', e => by
    unfold turnsTo at e
    split at e
    · rename_i h1; cases e; exact h1
    · exact turnsTo_outcome k _ _ e
theorem for_any {Q : PUnit → Shared → Prop} {f : Nat → PUnit → Sem (ForInStep PUnit)} (hf : ∀ i (Q : ForInStep PUnit → Shared → Prop), Q (.yield ⟨⟩) s → wpAny M A (f i ⟨⟩) Q E s) : ∀ (l : List Nat), Q ⟨⟩ s → wpAny M A (forIn l PUnit.unit f) Q E s
  | [], q => wpAny_pure q
  | i :: l, q => by
    rw [List.forIn_cons]
    exact wpAny_bind (hf i _ (for_any hf l q))
theorem reRunToEnd_fails {Q : Option Sre.M → Shared → Prop} {m : Sre.M} (h : isFailed (turnsTo 60 m) = true) (q : Q none s) : wpAny M A (Builtin.Re.reRunToEnd m) Q E s := by
  cases e : turnsTo 60 m with
  | none => rw [e] at h; cases h
  | some m' =>
    rw [e] at h
    unfold Builtin.Re.reRunToEnd
    refine wpAny_bind (reDrive_goes 60 (2 ^ 64) m m' (by decide) e ?_)
    refine wpAny_bind (for_any (fun i Q q => ?_) _ ?_)
    · by_cases h : m'.seen.has i = true
      · simp only [h, if_true]
        exact wpAny_bind (wpAny_rule (wpAny_pure q))
      · simp only [h]
        exact wpAny_pure q
    have ho : m'.outcome = some .failed := by
      simp only [isFailed] at h
      split at h
      · assumption
      · cases h
    simp only [ho]
    exact wpAny_pure q
end
section
variable {prog : Program} {w : World} {A : Around} {E : Value → Shared → Prop} {C : Cx} {L : Addr} {b : Sn} {m mg mb : Str → Option Value} {mu : Mu}
  {h h' : Heap} {gs : Array GenState} {dr : Drawn} {tk : Nat} {os : OsState} {env : Env} {x : Str} {pos : Pos} {v : Value}
theorem re_named (t : Str) (u : Tok) : Builtin.Re.reNamed "re.Pattern.search" "search" ["string", "pos", "endpos"] 1 [.str t u] [] = pure [some (.str t u), none, none] := by
  with_unfolding_all rfl
theorem g_search {t : Str} {u : Tok} {Q : Value → Shared → Prop} (X : (hd.heap_39 w.params).In h) (hgo : reGo t = true) (q : Q .none ⟨h, gs, dr, tk, os⟩) :
    wpAny (model prog w) A (call (.builtin "re.Pattern.search") [.ref 78, .str t u]) Q E ⟨h, gs, dr, tk, os⟩ := by
  have h78 : h.get? 78 = some _ := X 78 _ (by k_is)
  have h77 : h.get? 77 = some _ := X 77 _ (by k_is)
  refine wpAny_call_entry re_slot_search ⟨_, h78, rfl⟩ re_entry_search ?_ (re_args_search _ _)
  unfold Builtin.«re.Pattern.search» Builtin.Re.reTarget
  refine wpAny_bind ?_
  show wpAny _ _ ((Builtin.Re.reNamed "re.Pattern.search" "search" ["string", "pos", "endpos"] 1 [.str t u] []) >>= _) _ _ _
  rw [re_named]
  refine wpAny_bind (wpAny_pure ?_)
  refine wpAny_bind (wpAny_pure ?_)
  refine wpAny_bind (wpAny_pure ?_)
  refine wpAny_bind (wpAny_fieldsOf (s := ⟨h, gs, dr, tk, os⟩) h78 rfl ?_)
  refine wpAny_bind (wpAny_pure ?_)
  refine wpAny_bind (m := Builtin.Re.reNoCollectionInside (.str t u) 0) (wpAny_pure ?_)
  refine wpAny_bind (m := Builtin.Re.reRawItems (.ref 77)) ?_
  unfold Builtin.Re.reRawItems
  refine wpAny_bind (wpAny_seqItems (s := ⟨h, gs, dr, tk, os⟩) h77 rfl ?_)
  refine wpAny_pure (wpAny_pure ?_)
  unfold Builtin.Re.reAnswer
  have e : ((#[Value.int 14 0, Value.int 8 0, Value.int 1 0, Value.int 2 0, Value.int 4294967295 0, Value.int 1 0, Value.int 1 0, Value.int 46 0, Value.int 0 0, Value.int 16 0, Value.int 46 0, Value.int 24 0, Value.int 9 0, Value.int 1 0, Value.int 4294967295 0, Value.int 13 0, Value.int 4 0, Value.int 8 0, Value.int 0 0, Value.int 0 0, Value.int 1 0, Value.int 6 0, Value.int 5 0, Value.int 1 0] : Array Value).map Builtin.Re.reRawOf).map (fun x => x.toNat) = reCode := by decide +kernel
  unfold reGo at hgo
  rw [← e] at hgo
  refine wpAny_bind (reRunToEnd_fails hgo ?_)
  exact wpAny_pure ⟨_, rfl, q⟩
theorem g_searchM {pl : Sem Bool} {Q : Value × List Value → Shared → Prop} (X : (hd.heap_39 w.params).In h) (q : Q (.builtin "re.Pattern.search", [.ref 78]) ⟨h, gs, dr, tk, os⟩) :
    wpAny (model prog w) A (getMethod (.ref 78) "search" pl) Q E ⟨h, gs, dr, tk, os⟩ := by
  have h78 : h.get? 78 = some _ := X 78 _ (by k_is)
  exact getMethod_builtin (s := ⟨h, gs, dr, tk, os⟩) ⟨_, h78, rfl⟩ re_plainAttrs re_slot_search re_type_search (fun a e => by cases e; exact ⟨_, h78, rfl⟩) q
end
end Mine

end
section
open PySem PySem.W PyProof.Rows PySem.Calls PySem.Spec
set_option Elab.async false
set_option maxRecDepth 100000
set_option maxHeartbeats 1000000
set_option linter.unusedVariables false
namespace Mine
section
variable {prog : Program} {w : World} {A : Around} {E : Value → Shared → Prop} {C : Cx} {L : Addr} {b : Sn} {m mg mb : Str → Option Value} {mu : Mu}
  {h h' : Heap} {gs : Array GenState} {dr : Drawn} {tk : Nat} {os : OsState} {env : Env} {x : Str} {pos : Pos} {v : Value}

theorem keepsH (h : Heap) : KeptH (fun h' => ∀ a o, h.get? a = some o → h'.get? a = some o) := fun h' ob k a o e => Heap.get?_push_of_some ob (k a o e)

/-- `x[i:]` of a str -/
theorem g_strFrom {value e : Expr} {p1 p2 : Pos} {Q : Value → Shared → Prop} (S : St C L b m mu h)
    (q : wpAny (model prog w) A (eval value env) (fun ov s₁ => wpAny (model prog w) A (eval e env) (fun iv s₂ => ∃ h₂ tk₂ b₂ y t i ui, s₂ = ⟨h₂, gs, dr, tk₂, os⟩ ∧ ov = .str y t ∧ iv = .int i ui ∧ y.length ≤ 100000 ∧ St C L b₂ m mu h₂ ∧
      ∀ h₃ t₃ tk₃, St C L b₂ m mu h₃ → Q (.str (Txt.slice y (some i) none) t₃) ⟨h₃, gs, dr, tk₃, os⟩) E s₁) E ⟨h, gs, dr, tk, os⟩)
    (hs : ∀ (y : Str) (t : Tok) (a : Addr), subscripted (.Slice (some e) none none p1) false (.str y t) (.ref a) = operate [.ref a, .str y t] (getItem (.str y t) (.ref a)) := by intro _ _ _; with_unfolding_all rfl)
    (ht : ∀ (y : Str) (t : Tok) r, letTemporaryGo value (.str y t) r = pure () := by intro _ _ _; with_unfolding_all rfl) :
    wpAny (model prog w) A (eval (.Subscript value (.Slice (some e) none none p1) p2) env) Q E ⟨h, gs, dr, tk, os⟩ := by
  refine Subscript_ (wpAny_mono q (fun ov s₁ h₁ => wpAny_Slice (evalPart_some_step (wpAny_mono h₁ (fun iv s₂ h₂ => ?_) fun _ _ e => e))) fun _ _ e => e)
  obtain ⟨h₂, tk₂, b₂, y, t, i, ui, rfl, rfl, rfl, hz, S₂, k⟩ := h₂
  refine evalPart_none_step (evalPart_none_step ?_)
  refine tail_of_ItemOn (SBH.sliceItem_sn (s := ⟨h₂, gs, dr, tk₂, os⟩) (keepsH h₂) (fun _ _ e => e) (fun h' t' k' hk => k h' t' k' (S₂.stay hk)) (by rw [sizeLine_eq]; omega)) (hs _ _ _) (ht _ _)

/-- `x[::-1]` of a str -/
theorem g_strRev {value : Expr} {e : Expr} {p1 p2 : Pos} {Q : Value → Shared → Prop} (S : St C L b m mu h)
    (q : wpAny (model prog w) A (eval value env) (fun ov s₁ => wpAny (model prog w) A (eval e env) (fun iv s₂ => ∃ h₂ tk₂ b₂ y t ui, s₂ = ⟨h₂, gs, dr, tk₂, os⟩ ∧ ov = .str y t ∧ iv = .int (-1) ui ∧ y.length ≤ 100000 ∧ St C L b₂ m mu h₂ ∧
      ∀ h₃ t₃ tk₃, St C L b₂ m mu h₃ → Q (.str (Txt.sliceBy y none none (-1, ui)) t₃) ⟨h₃, gs, dr, tk₃, os⟩) E s₁) E ⟨h, gs, dr, tk, os⟩)
    (hs : ∀ (y : Str) (t : Tok) (a : Addr), subscripted (.Slice none none (some e) p1) false (.str y t) (.ref a) = operate [.ref a, .str y t] (getItem (.str y t) (.ref a)) := by intro _ _ _; with_unfolding_all rfl)
    (ht : ∀ (y : Str) (t : Tok) r, letTemporaryGo value (.str y t) r = pure () := by intro _ _ _; with_unfolding_all rfl) :
    wpAny (model prog w) A (eval (.Subscript value (.Slice none none (some e) p1) p2) env) Q E ⟨h, gs, dr, tk, os⟩ := by
  refine Subscript_ (wpAny_mono q (fun ov s₁ h₁ => wpAny_Slice (evalPart_none_step (evalPart_none_step (evalPart_some_step (wpAny_mono h₁ (fun iv s₂ h₂ => ?_) fun _ _ e => e))))) fun _ _ e => e)
  obtain ⟨h₂, tk₂, b₂, y, t, ui, rfl, rfl, rfl, hz, S₂, k⟩ := h₂
  refine tail_of_ItemOn ⟨"str", _, F.slot_str_getitem.lookup, typeIs_str _ _ _, wpAny_getItem_str_slice (l := none) (u := none) (st := some (-1, ui)) ⟨_, Heap.get?_push_size _ rfl, rfl, rfl⟩ rfl
    (post_val_or_str ⟨Nat.le_trans (Txt.sliceBy_le y _ _ (-1, ui) (by simp)) (by rw [sizeLine_eq]; omega), fun t' c => k _ t' c (S₂.stay fun a o e => Heap.get?_push_of_some _ e)⟩)⟩ (hs _ _ _) (ht _ _)

theorem pick_upto (vs : List Value) (k : Nat) : slicePick vs.toArray none (some (k : Int)) none = (vs.take k).toArray := by
  have e : sliceBounds none (some (k : Int)) none vs.toArray.size = (((0 : Nat) : Int), ((min k vs.toArray.size : Nat) : Int), 1) := by
    simp only [sliceBounds, Option.getD_none, show (1 : Int) > 0 by decide, if_true, if_neg (show ¬ ((k : Int) < 0) by omega)]
    congr 1
    congr 1
    omega
  rw [kmk_pick_nat _ e]
  show ((vs.drop 0).take (min k vs.toArray.size - 0)).toArray = _
  rw [List.drop_zero, Nat.sub_zero, List.size_toArray, kmk_take_min]
theorem pick_from (vs : List Value) (k : Nat) : slicePick vs.toArray (some (k : Int)) none none = (vs.drop k).toArray := by
  have e : sliceBounds (some (k : Int)) none none vs.toArray.size = (((min k vs.toArray.size : Nat) : Int), ((vs.toArray.size : Nat) : Int), 1) := by
    simp only [sliceBounds, Option.getD_none, show (1 : Int) > 0 by decide, if_true, if_neg (show ¬ ((k : Int) < 0) by omega)]
    congr 1
    omega
  rw [kmk_pick_nat _ e]
  show ((vs.drop (min k vs.toArray.size)).take (vs.toArray.size - min k vs.toArray.size)).toArray = _
  rw [List.size_toArray, kmk_drop_min, List.take_of_length_le (by rw [List.length_drop]; omega)]

/-- `l[k:]` of a list -/
theorem g_lstFrom {value e : Expr} {p1 p2 : Pos} {Q : Value → Shared → Prop} (S : St C L b m mu h)
    (q : wpAny (model prog w) A (eval value env) (fun ov s₁ => wpAny (model prog w) A (eval e env) (fun iv s₂ => ∃ h₂ tk₂ b₂ a, ∃ vs : List Value, ∃ k : Nat, ∃ ui, s₂ = ⟨h₂, gs, dr, tk₂, os⟩ ∧ ov = .ref a ∧ iv = .int (k : Int) ui ∧ vs.length ≤ 100000 ∧ h₂.IsList a vs.toArray ∧ St C L b₂ m mu h₂ ∧
      ∀ D h₃ tk₃, D ∉ C.ps → St C L b₂ m ((D, lstO (vs.drop k) 0) :: mu) h₃ → Q (.ref D) ⟨h₃, gs, dr, tk₃, os⟩) E s₁) E ⟨h, gs, dr, tk, os⟩)
    (hs : ∀ (y : Addr) (a : Addr), subscripted (.Slice (some e) none none p1) false (.ref y) (.ref a) = operate [.ref a, .ref y] (getItem (.ref y) (.ref a)) := by intro _ _; with_unfolding_all rfl)
    (ht : ∀ (y : Addr) r, letTemporaryGo value (.ref y) r = pure () := by intro _ _; with_unfolding_all rfl) :
    wpAny (model prog w) A (eval (.Subscript value (.Slice (some e) none none p1) p2) env) Q E ⟨h, gs, dr, tk, os⟩ := by
  refine Subscript_ (wpAny_mono q (fun ov s₁ h₁ => wpAny_Slice (evalPart_some_step (wpAny_mono h₁ (fun iv s₂ h₂ => ?_) fun _ _ e => e))) fun _ _ e => e)
  obtain ⟨h₂, tk₂, b₂, a, vs, k, ui, rfl, rfl, rfl, hz, hl, S₂, kk⟩ := h₂
  refine evalPart_none_step (evalPart_none_step ?_)
  have S₃ := S₂.stay (h' := h₂.push { cls := .type "slice", data := .fields #[.int (k : Int) ui, .none, .none] }) fun _ _ e => Heap.get?_push_of_some _ e
  refine subscriptTail_ops (Heap.IsList.typeIs (s := { heap := h₂.push { cls := .type "slice", data := .fields #[.int (k : Int) ui, .none, .none] }, gens := gs, drawn := dr, toks := tk₂, os := os }) (hl.push _)) list_getitem_lookup
    (wpAny_getItem_list_slice (hl.push _) (Heap.IsSliceOf.new ..) (.int _ _) .none .none (by simp) ?_ (by simp only [List.size_toArray]; rw [sizeLine_eq]; omega)) (hs _ _) (ht _)
  rw [pick_from]
  exact kk _ _ _ (S₃.fresh (gone_self _)).2.2.2.1 (S₃.push _)
/-- `l[:k]` of a list -/
theorem g_lstUpto {value e : Expr} {p1 p2 : Pos} {Q : Value → Shared → Prop} (S : St C L b m mu h)
    (q : wpAny (model prog w) A (eval value env) (fun ov s₁ => wpAny (model prog w) A (eval e env) (fun iv s₂ => ∃ h₂ tk₂ b₂ a, ∃ vs : List Value, ∃ k : Nat, ∃ ui, s₂ = ⟨h₂, gs, dr, tk₂, os⟩ ∧ ov = .ref a ∧ iv = .int (k : Int) ui ∧ vs.length ≤ 100000 ∧ h₂.IsList a vs.toArray ∧ St C L b₂ m mu h₂ ∧
      ∀ D h₃ tk₃, D ∉ C.ps → St C L b₂ m ((D, lstO (vs.take k) 0) :: mu) h₃ → Q (.ref D) ⟨h₃, gs, dr, tk₃, os⟩) E s₁) E ⟨h, gs, dr, tk, os⟩)
    (hs : ∀ (y : Addr) (a : Addr), subscripted (.Slice none (some e) none p1) false (.ref y) (.ref a) = operate [.ref a, .ref y] (getItem (.ref y) (.ref a)) := by intro _ _; with_unfolding_all rfl)
    (ht : ∀ (y : Addr) r, letTemporaryGo value (.ref y) r = pure () := by intro _ _; with_unfolding_all rfl) :
    wpAny (model prog w) A (eval (.Subscript value (.Slice none (some e) none p1) p2) env) Q E ⟨h, gs, dr, tk, os⟩ := by
  refine Subscript_ (wpAny_mono q (fun ov s₁ h₁ => wpAny_Slice (evalPart_none_step (evalPart_some_step (wpAny_mono h₁ (fun iv s₂ h₂ => ?_) fun _ _ e => e)))) fun _ _ e => e)
  obtain ⟨h₂, tk₂, b₂, a, vs, k, ui, rfl, rfl, rfl, hz, hl, S₂, kk⟩ := h₂
  refine evalPart_none_step ?_
  have S₃ := S₂.stay (h' := h₂.push { cls := .type "slice", data := .fields #[.none, .int (k : Int) ui, .none] }) fun _ _ e => Heap.get?_push_of_some _ e
  refine subscriptTail_ops (Heap.IsList.typeIs (s := { heap := h₂.push { cls := .type "slice", data := .fields #[.none, .int (k : Int) ui, .none] }, gens := gs, drawn := dr, toks := tk₂, os := os }) (hl.push _)) list_getitem_lookup
    (wpAny_getItem_list_slice (hl.push _) (Heap.IsSliceOf.new ..) .none (.int _ _) .none (by simp) ?_ (by simp only [List.size_toArray]; rw [sizeLine_eq]; omega)) (hs _ _) (ht _)
  rw [pick_upto]
  exact kk _ _ _ (S₃.fresh (gone_self _)).2.2.2.1 (S₃.push _)
end
end Mine

end
section
open PySem PySem.W PyProof.Rows PySem.Calls PySem.Spec
set_option Elab.async false
set_option maxRecDepth 100000
set_option maxHeartbeats 1000000
set_option linter.unusedVariables false
namespace Mine

def compEnvG (scope : Scope) (cl : List (Str × Addr)) (Cc : Addr) (env : Env) : Env := { compEnvC scope cl Cc env with cells := cellsFrom (Cc + 1) scope.names cl }

section
variable {prog : Program} {w : World} {A : Around} {E : Value → Shared → Prop} {C : Cx} {L : Addr} {b : Sn} {m mg mb : Str → Option Value} {mu : Mu}
  {h h' : Heap} {gs : Array GenState} {dr : Drawn} {tk : Nat} {os : OsState} {env : Env} {x : Str} {pos : Pos} {v : Value}

theorem St.dropL {mu1 : Mu} : ∀ {rest : Mu}, St C L b m (mu1 ++ rest) h → (∀ p ∈ mu1, p.1 ∉ C.ps) → St C L b m rest h := by
  induction mu1 with
  | nil => intro rest S _; exact S
  | cons p r ih => intro rest S k; exact ih (St.drop0 (d := p.1) (o := p.2) S (k p (List.mem_cons_self ..))) fun q hq => k q (List.mem_cons_of_mem _ hq)

theorem new_comp {scope : Scope} {globals : Addr} {cl : List (Str × Addr)} {qual : Str} {Q : Env → Shared → Prop}
    (q : ∀ h₁ cells, h₁.Ns h.objs.size (fun _ => none) → (∀ a o, h.get? a = some o → h₁.get? a = some o) → CellsAre (fun _ => none) (cellsFrom (h.objs.size + 1) scope.names []) cells →
      (∀ p ∈ cells, h₁.get? p.1 = some p.2 ∧ p.1 ≠ h.objs.size ∧ h.get? p.1 = none) → 
      Q { scope := scope, locals := h.objs.size, globals := globals, cells := cellsFrom (h.objs.size + 1) scope.names cl, qual := qual, func := none, code := env.code, frame := env.frame, builtins := env.builtins } ⟨h₁, gs, dr, tk, os⟩) :
    wpAny (model prog w) A (newFunctionEnv scope globals cl [] qual none .none (some env)) Q E ⟨h, gs, dr, tk, os⟩ := by
  simp only [newFunctionEnv, Option.isSome_some, if_true]
  refine wpAny_bind (wpAny_alloc ?_)
  refine wpAny_bind (wpAny_layCells _ (fun name kind cells => by cases hkc : kind == NameKind.cell <;> simp [hkc]) _ _ _ _ ?_)
  refine wpAny_bind (wpAny_pure (wpAny_pure ?_))
  have hsz : (h.push { cls := .type "dict", data := .dict #[] }).objs.size = h.objs.size + 1 := Heap.size_push ..
  have ok := cellsFrom_ok scope.names (h.push { cls := .type "dict", data := .dict #[] }) (h.objs.size + 1) [] ⟨fun _ _ hm => (nomatch hm), List.Pairwise.nil⟩ (by rw [Heap.size_push]; exact Nat.le_refl _)
  rw [hsz] at ok
  obtain ⟨cells, NC, Y⟩ := Cl.news (h₀ := h) (L := h.objs.size) (cm := fun _ => none) (Nat.le_refl _) fun n c hm => ⟨(ok.empty n c hm).1, Nat.lt_of_succ_le (ok.empty n c hm).2⟩
  show Q { scope := scope, locals := h.objs.size, globals := globals, cells := cellsFrom (h.push { cls := .type "dict", data := .dict #[] }).objs.size scope.names cl, qual := qual, func := none, code := env.code, frame := env.frame, builtins := env.builtins } _
  rw [hsz]
  exact q _ cells ((Heap.Ns.new h (.type "dict")).keeps (pushCells_keeps _ _)) (fun a o e => pushCells_keeps _ _ a o (Heap.get?_push_of_some _ e)) Y NC

/-- an iterator whose object keeps T -/
structure IterO (prog : Program) (w : World) (A : Around) (I : Addr) (b : Sn) (n : Nat) (P : Nat → Value → Prop) (T : Obj → Prop) (h : Heap) : Prop where
  ex : ∃ fp Wst, Walks prog w A I fp [I] n P Wst ∧ Wst 0 h ∧ (∀ i h, Wst i h → ∃ o, h.get? I = some o ∧ T o) ∧ ∀ a ∈ fp, a = I ∨ ∃ o, b a = some o
theorem IterAt.toO {I : Addr} {n : Nat} {P : Nat → Value → Prop} (W : IterAt prog w A I b n P h) : IterO prog w A I b n P (fun _ => True) h :=
  let ⟨fp, Wst, W, hst, hal, hfp⟩ := W.ex; ⟨fp, Wst, W, hst, fun i h st => let ⟨o, e⟩ := hal i h st; ⟨o, e, trivial⟩, hfp⟩
def LIt (o : Obj) : Prop := o.cls = .type "list_iterator" ∧ ∃ l, ∃ i : Nat, o.data = .fields #[.ref l, .int i 0]
theorem it_listO {Q : Value → Shared → Prop} {a : Addr} {vs : List Value} (hh : A.handled = none) (S : St C L b m mu h) (hl : LstB b a vs)
    (q : ∀ I io h', h.get? I = none → I ∉ C.ps → St C L b m ((I, io) :: mu) h' → (∀ A' : Around, A'.handled = none → IterO prog w A' I b vs.length (fun i v => vs[i]? = some v) LIt h') → Q (.ref I) ⟨h', gs, dr, tk, os⟩) :
    wpAny (model prog w) A (pyIter (.ref a)) Q E ⟨h, gs, dr, tk, os⟩ := by
  have hls := hl.at S
  have hlt : a < h.objs.size := let ⟨_, ho, _⟩ := id hls; Heap.lt_size ho
  refine wpAny_pyIter_list hls ?_
  refine q _ _ _ (gone_self h) (S.fresh (gone_self h)).2.2.2.1 (S.push _) fun A' hA' => ⟨[h.objs.size, a], fun i h' => h'.IsListIter h.objs.size a i ∧ h'.IsList a vs.toArray, ?_, ⟨⟨_, Heap.get?_push_size _ rfl, rfl, rfl⟩, hls.push _⟩, fun i h st => let ⟨o, e, c, d⟩ := st.1; ⟨o, e, c, a, i, d⟩, ?_⟩
  · have W := Walks.list (prog := prog) (w := w) hA' h.objs.size a (Nat.ne_of_lt hlt) vs.toArray
    simpa using W
  · intro c hc
    simp only [List.mem_cons, List.not_mem_nil, or_false] at hc
    rcases hc with rfl | rfl
    · exact .inl rfl
    · exact .inr (let ⟨o, e, _⟩ := hl; ⟨o, e⟩)

theorem comp_setupG {e : Expr} {scope : Scope} {cl : List (Str × Addr)} {I : Addr} {io ao : Obj} {n : Nat} {P : Nat → Value → Prop} {T : Obj → Prop} {RR : Value → Addr → Result → Shared → Prop} {newAcc : Sem Value}
    (S : St C L b m ((I, io) :: mu) h) (W : IterO prog w A I b n P T h) (hao : ao.isFreed = false) (hnew : ∀ {Q : Value → Shared → Prop}, Q (.ref h.objs.size) ⟨h.push ao, gs, dr, tk, os⟩ → wpAny (model prog w) A newAcc Q E ⟨h, gs, dr, tk, os⟩)
    (hstart : ∀ {it acc : Value} {cenv : Env} {R : Result → Shared → Prop} {s : Shared}, codeAny (model prog w) A (.compLoop e 0 it acc cenv) R s → wpAny (model prog w) A (pyIter it) (fun it' s' => codeAny (model prog w) A (.compLoop e 0 it' acc cenv) R s')
      (notedBy (model prog w) A cenv fun x s' => R (.error x) s') s → codeAny (model prog w) A (.compStart e 0 it acc cenv) R s)
    (q : ∀ D Cc h₁ tk₁ cells, h.objs.size = D → IterO prog w A I b n P T h₁ → CellsAre (fun _ => none) (cellsFrom (Cc + 1) scope.names []) cells → St ⟨C.h₀, b, h, [I]⟩ Cc b (fun _ => none) ((I, io) :: (D, ao) :: cells) h₁ →
      codeAny (model prog w) A (.compLoop e 0 (.ref I) (.ref D) (compEnvG scope cl Cc env)) (RR (.ref D) Cc) ⟨h₁, gs, dr, tk₁, os⟩) :
    wpAny (model prog w) A newAcc (fun acc s₃ => wpAny (model prog w) A (newFunctionEnv scope env.globals cl [] env.qual none .none (some env)) (fun cenv s₄ =>
      codeAny (model prog w) A (.compStart e 0 (.ref I) acc { cenv with scope := relabel scope env }) (RR acc cenv.locals) s₄) E s₃) E ⟨h, gs, dr, tk, os⟩ := by
  refine hnew (new_comp fun h₁ cells hns k1 Y NC => ?_)
  have hpush : (h.push ao).objs.size = h.objs.size + 1 := Heap.size_push ..
  have k2 : ∀ a o, h.get? a = some o → (h.push ao).get? a = some o := fun a o e => Heap.get?_push_of_some _ e
  have hD0 : (h.push ao).get? h.objs.size = some ao := Heap.get?_push_size _ hao
  generalize h.push ao = H2 at *
  have hC : h.get? H2.objs.size = none := gone (by rw [hpush]; exact Nat.le_succ _)
  have S₁ := St.enter (mv := [(I, io)]) S hC hns fun a o e => k1 a o (k2 a o e)
  have hDn : h.objs.size ≠ H2.objs.size := by rw [hpush]; exact Nat.ne_of_lt (Nat.lt_succ_self _)
  have fr := S.fresh (gone_self h)
  have hcn : ∀ p ∈ cells, h.get? p.1 = none := fun p hp => by
    cases e : h.get? p.1 with
    | none => rfl
    | some o => have := k2 _ _ e; rw [(NC p hp).2.2] at this; cases this
  have hcI : ∀ p ∈ cells, p.1 ≠ I := fun p hp q => by have := S.muin (I, io) (List.mem_cons_self ..); rw [← q, hcn p hp] at this; cases this
  have hcD : ∀ p ∈ cells, p.1 ≠ h.objs.size := fun p hp q => by have := (NC p hp).2.2; rw [q, hD0] at this; cases this
  have hID : I ≠ h.objs.size := fun q => by have := S.muin (I, io) (List.mem_cons_self ..); simp only at this; rw [q, gone_self] at this; cases this
  have S₂ : St ⟨C.h₀, b, h, [I]⟩ H2.objs.size b (fun _ => none) ((I, io) :: (h.objs.size, ao) :: cells) h₁ := { S₁ with
    bmu := fun p hp => by
      rcases List.mem_cons.mp hp with rfl | hp
      · exact S₁.bmu _ (List.mem_cons_self ..)
      · rcases List.mem_cons.mp hp with rfl | hp
        · exact fr.2.1
        · exact (S.fresh (hcn p hp)).2.1
    muin := fun p hp => by
      rcases List.mem_cons.mp hp with rfl | hp
      · exact S₁.muin _ (List.mem_cons_self ..)
      · rcases List.mem_cons.mp hp with rfl | hp
        · exact k1 _ _ hD0
        · exact (NC p hp).1
    muL := fun p hp => by
      rcases List.mem_cons.mp hp with rfl | hp
      · exact S₁.muL _ (List.mem_cons_self ..)
      · rcases List.mem_cons.mp hp with rfl | hp
        · exact hDn
        · exact (NC p hp).2.1
    mund := by
      refine List.nodup_cons.mpr ⟨fun q => ?_, List.nodup_cons.mpr ⟨fun q => ?_, ?_⟩⟩
      · rcases List.mem_cons.mp q with q | q
        · exact hID q
        · obtain ⟨p, hp, e⟩ := List.mem_map.mp q; exact hcI p hp e
      · obtain ⟨p, hp, e⟩ := List.mem_map.mp q; exact hcD p hp e
      · rw [CellsAre.adr Y]; exact cellsFrom_nodup _ _ _ (fun _ hp => nomatch hp) List.nodup_nil
    mufr := fun p hp => by
      rcases List.mem_cons.mp hp with rfl | hp
      · exact S₁.mufr _ (List.mem_cons_self ..)
      · rcases List.mem_cons.mp hp with rfl | hp
        · exact .inr (gone_self h)
        · exact .inr (hcn p hp)
    psin := fun a ha => by simp at ha; subst ha; exact List.mem_cons_self .. }
  have W₁ : IterO prog w A I b n P T h₁ := by
    obtain ⟨fp, Wst, W, hst, hal, hfp⟩ := W.ex
    exact ⟨fp, Wst, W, W.frame _ _ _ hst fun a _ o e => k1 a o (k2 a o e), hal, hfp⟩
  have loop := q _ _ h₁ tk cells rfl W₁ Y S₂
  obtain ⟨fp, Wst, W, hst, hal, hfp⟩ := W₁.ex
  exact hstart loop (W.self 0 _ _ _ hst loop)

/-- the turns of a comprehension -/
theorem comp_walkG {e : Expr} {I Cc : Addr} {io : Obj} {n : Nat} {P : Nat → Value → Prop} {T : Obj → Prop} {g : Heap} {h₀ : Heap} {acc : Value} {cenv : Env} {R : Result → Shared → Prop} {Er : Value → Shared → Prop} {Body : Value → (Shared → Prop) → Shared → Prop}
    (loop : ∀ (In : Nat → Shared → Prop), (∀ n s, In n s → wpAny (model prog w) A (pyNext (.ref I)) (fun r s₁ => match r with | none => R (.ok .next) s₁ | some v => Body v (fun s' => ∃ m, m < n ∧ In m s') s₁) Er s) → ∀ n s, In n s → codeAny (model prog w) A (.compLoop e 0 (.ref I) acc cenv) R s)
    (W : IterO prog w A I b n P T h) (S : St ⟨h₀, b, g, [I]⟩ Cc b m ((I, io) :: mu) h)
    (J : Nat → (Str → Option Value) → Mu → Sn → Prop) (h0 : J 0 m mu b)
    (turn : ∀ i v io₁ m₁ mu₁ b₁ h₁ tk₁, i < n → P i v → T io₁ → J i m₁ mu₁ b₁ → b.Le b₁ → St ⟨h₀, b, g, [I]⟩ Cc b₁ m₁ ((I, io₁) :: mu₁) h₁ →
      ∀ K : Shared → Prop, (∀ h₂ tk₂ m₂ mu₂ b₂, b₁.Le b₂ → St ⟨h₀, b, g, [I]⟩ Cc b₂ m₂ ((I, io₁) :: mu₂) h₂ → J (i + 1) m₂ mu₂ b₂ → K ⟨h₂, gs, dr, tk₂, os⟩) → Body v K ⟨h₁, gs, dr, tk₁, os⟩)
    (done : ∀ m₁ mu₁ b₁ io₁ h' h₁ tk₁, J n m₁ mu₁ b₁ → b.Le b₁ → St ⟨h₀, b, g, [I]⟩ Cc b₁ m₁ ((I, io₁) :: mu₁) h' → (∀ a o, a ≠ I → h'.get? a = some o → h₁.get? a = some o) → R (.ok .next) ⟨h₁, gs, dr, tk₁, os⟩) :
    codeAny (model prog w) A (.compLoop e 0 (.ref I) acc cenv) R ⟨h, gs, dr, tk, os⟩ := by
  obtain ⟨fp, Wst, W, hst, hal, hfp⟩ := W.ex
  refine loop (fun k s' => ∃ h' tk' io' m' mu' b' i, s' = ⟨h', gs, dr, tk', os⟩ ∧ Wst i h' ∧ St ⟨h₀, b, g, [I]⟩ Cc b' m' ((I, io') :: mu') h' ∧ b.Le b' ∧ J i m' mu' b' ∧ i ≤ n ∧ k = n + 1 - i) ?_ (n + 1) _
    ⟨h, tk, io, m, mu, b, 0, rfl, hst, S, Sn.Le.refl _, h0, Nat.zero_le _, rfl⟩
  rintro k s' ⟨h', tk', io', m', mu', b', i, rfl, hst', S', hb', hJ, hi, rfl⟩
  by_cases hlt : i < n
  · refine W.item i _ _ _ hlt hst' fun v h₁ tk₁ hP hst₁ hk₁ => ?_
    obtain ⟨io₁, hio₁, hT⟩ := hal _ _ hst₁
    have S₁ : St ⟨h₀, b, g, [I]⟩ Cc b' m' ((I, io₁) :: mu') h₁ := St.mut (mu1 := []) S' hio₁ fun a o n e => hk₁ a o (by simpa using n) e
    refine turn i v io₁ m' mu' b' h₁ tk₁ hlt hP hT hJ hb' S₁ _ fun h₂ tk₂ m₂ mu₂ b₂ l₂ S₂ hJ₂ => ?_
    refine ⟨n + 1 - (i + 1), by omega, h₂, tk₂, io₁, m₂, mu₂, b₂, i + 1, rfl, W.frame _ _ _ hst₁ fun a ha o e => ?_, S₂, hb'.trans l₂, hJ₂, hlt, rfl⟩
    rcases hfp _ ha with rfl | ⟨o', h1⟩
    · rw [hio₁] at e; cases e; exact S₂.muin _ (List.mem_cons_self ..)
    · have e1 := S₁.bin _ _ (hb' _ _ h1)
      rw [e1] at e; cases e
      exact S₂.bin _ _ (l₂ _ _ (hb' _ _ h1))
  · have hin : i = n := by omega
    subst hin
    exact W.done _ _ _ hst' fun h₁ tk₁ hk₁ => done m' mu' b' io' h' h₁ tk₁ hJ hb' S' fun a o q e => hk₁ a o (by simpa using q) e

theorem comp_finG {I D Cc : Addr} {io io₁ do_ : Obj} {rest : Mu} {b₁ : Sn} {m₁ : Str → Option Value} {h₁ h₂ : Heap} (S : St C L b m ((I, io) :: mu) h) (hI : I ∉ C.ps) (S' : St ⟨C.h₀, b, h, [I]⟩ Cc b₁ m₁ ((I, io₁) :: (D, do_) :: rest) h')
    (k₁ : ∀ a o, a ≠ I → h'.get? a = some o → h₁.get? a = some o) (k₂ : ∀ a o, a ≠ Cc → h₁.get? a = some o → h₂.get? a = some o) : St C L b₁ m ((D, do_) :: mu) h₂ ∧ D ∉ C.ps := by
  have nd := S'.mund
  simp only [addrs, List.map_cons, List.nodup_cons, List.mem_cons, not_or] at nd
  have fr : ∀ p ∈ (D, do_) :: rest, p.1 ∉ C.ps := fun p hp q => by
    obtain ⟨r, hr, e⟩ := List.mem_map.mp (S.psin _ q)
    have hal := S.muin r hr
    rcases S'.mufr p (List.mem_cons_of_mem _ hp) with h1 | h1
    · simp only [List.mem_singleton] at h1; exact hI (h1 ▸ q)
    · simp only at h1; rw [e, h1] at hal; cases hal
  have S₁ : St C L b₁ m ((I, io₁) :: (D, do_) :: rest ++ mu) h' := St.back (mv := [(I, io)]) S S'
  have S₂ : St C L b₁ m ((D, do_) :: (rest ++ mu)) h' := St.drop0 S₁ hI
  have S₃ : St C L b₁ m (rest ++ ((D, do_) :: mu)) h' := S₂.perm (by
    have : ((D, do_) :: (rest ++ mu)).Perm (rest ++ (D, do_) :: mu) := (List.perm_middle).symm
    exact this)
  have S₄ : St C L b₁ m ((D, do_) :: mu) h' := St.dropL S₃ fun p hp => fr p (List.mem_cons_of_mem _ hp)
  have hm : (I, io₁) ∈ (I, io₁) :: (D, do_) :: rest ++ mu := List.mem_cons_self ..
  have hne : ∀ p ∈ (D, do_) :: mu, p.1 ≠ I := fun p hp q => by
    have nd1 := (nodup_mid (mu1 := []) S₁.mund).1 p (by
      rcases List.mem_cons.mp hp with rfl | hp
      · exact List.mem_cons_self ..
      · exact List.mem_append_right ((D, do_) :: rest) hp)
    exact nd1 q
  have hg : C.g.get? I = none := (S₁.mufr _ hm).resolve_left hI
  have S₅ : St C L b₁ m ((D, do_) :: mu) h₁ := St.off (C' := C) (L' := I) (b' := b₁) (m' := m) (mu' := mu) S₄ (Ne.symm (S₁.muL _ hm)) (S₁.bmu _ hm) hne hg k₁
  have hc : h.get? Cc = none := S'.gL
  have f := S.fresh hc
  refine ⟨St.off (C' := C) (L' := Cc) (b' := b₁) (m' := m) (mu' := mu) S₅ (Ne.symm f.1) S'.bL (fun p hp => ?_) f.2.2.2.2 k₂, fr _ (List.mem_cons_self ..)⟩
  rcases List.mem_cons.mp hp with rfl | hp
  · exact S'.muL _ (List.mem_cons_of_mem _ (List.mem_cons_self ..))
  · intro q; have := S.muin p (List.mem_cons_of_mem _ hp); rw [q, hc] at this; cases this
end
end Mine

end
section
open PySem PySem.W PyProof.Rows PySem.Calls PySem.Spec
set_option Elab.async false
set_option maxRecDepth 100000
set_option maxHeartbeats 1000000
set_option linter.unusedVariables false
namespace Mine
section
variable {prog : Program} {w : World} {A : Around} {E : Value → Shared → Prop} {C : Cx} {L : Addr} {b : Sn} {m mg mb : Str → Option Value} {mu mu1 mu2 : Mu}
  {h h' : Heap} {gs : Array GenState} {dr : Drawn} {tk : Nat} {os : OsState} {env : Env} {x : Str} {pos : Pos} {v : Value}

/-- a store into a cell of the own frame -/
theorem stC {Q : Unit → Shared → Prop} {c : Addr} {o : Obj} {v₀ : Option Value} (S : St C L b m (mu1 ++ (c, o) :: mu2) h) (hc : env.cells.lookup x = some c) (ho : o.data = .cell v₀)
    (q : ∀ h' o', o'.data = .cell (some v) → St C L b m (mu1 ++ (c, o') :: mu2) h' → Heap.SameBut c h h' → Q () ⟨h', gs, dr, tk, os⟩)
    (hk : env.scope.kind = .function := by rfl) (hx : env.kindOf x = some .cell := by rfl) :
    wpAny (model prog w) A (storeName env x v) Q E ⟨h, gs, dr, tk, os⟩ := by
  refine wpAny_storeName_cell (s := ⟨h, gs, dr, tk, os⟩) hk hx hc ⟨o, S.muin (c, o) (by simp), ho⟩ fun h' hcell hs => ?_
  obtain ⟨o', e, d⟩ := hcell
  exact q h' o' d (S.mut e fun a x n e => hs.extBut a x n e) hs

theorem post_none {I D Cc : Addr} {io io₁ do_ : Obj} {rest : Mu} {b₁ : Sn} {m₁ : Str → Option Value} {h₁ : Heap} {Q : Value → Shared → Prop} (S : St C L b m ((I, io) :: mu) h) (hI : I ∉ C.ps) (S' : St ⟨C.h₀, b, h, [I]⟩ Cc b₁ m₁ ((I, io₁) :: (D, do_) :: rest) h')
    (k₁ : ∀ a o, a ≠ I → h'.get? a = some o → h₁.get? a = some o) (q : ∀ h₂, D ∉ C.ps → St C L b₁ m ((D, do_) :: mu) h₂ → Q (.ref D) ⟨h₂, gs, dr, tk, os⟩) :
    compPost (model prog w) A E none Q (.ref D) Cc (.ok .next) ⟨h₁, gs, dr, tk, os⟩ := by
  have hIC : I ≠ Cc := S'.muL (I, io₁) (by simp)
  refine ⟨m₁, S'.ns.at' fun o e => k₁ _ o (Ne.symm hIC) e, fun h₃ hs₃ => ?_⟩
  obtain ⟨S₃, hD⟩ := comp_finG S hI S' k₁ fun a o n e => hs₃.extBut a o n e
  exact q h₃ hD S₃
theorem post_local {I D Cc : Addr} {io io₁ do_ : Obj} {rest : Mu} {b₁ : Sn} {m₁ : Str → Option Value} {h₁ : Heap} {Q : Value → Shared → Prop} {y : Str} {py : Pos} (S : St C env.locals b m ((I, io) :: mu) h) (hI : I ∉ C.ps) (S' : St ⟨C.h₀, b, h, [I]⟩ Cc b₁ m₁ ((I, io₁) :: (D, do_) :: rest) h')
    (k₁ : ∀ a o, a ≠ I → h'.get? a = some o → h₁.get? a = some o) (q : ∀ h₂ tk₂, D ∉ C.ps → St C env.locals b₁ (upd m y (.ref D)) ((D, do_) :: mu) h₂ → Q .none ⟨h₂, gs, dr, tk₂, os⟩)
    (hy : env.kindOf y = some .local := by rfl) (hp : (env.scope.kind == .class || (env.scope.kind == .module && env.locals != env.globals)) = false := by rfl) :
    compPost (model prog w) A E (some (assign (.Name y py) env)) Q (.ref D) Cc (.ok .next) ⟨h₁, gs, dr, tk, os⟩ := by
  have hIC : I ≠ Cc := S'.muL (I, io₁) (by simp)
  have hn₂ : h₁.Ns Cc m₁ := S'.ns.at' fun o e => k₁ _ o (Ne.symm hIC) e
  obtain ⟨S₃, hD⟩ := comp_finG S hI S' k₁ (h₂ := h₁) fun a o n e => e
  have f := S.fresh S'.gL
  have hLC : env.locals ≠ Cc := Ne.symm f.1
  refine wpAny_assign_Name (wpAny_storeName_local hy S₃.ns (fun h₄ hn₄ hs₄ => ?_) hp)
  refine ⟨m₁, hn₂.sameBut hs₄ (Ne.symm hLC), fun h₅ hs₅ => ?_⟩
  have S₄ := S₃.locS hn₄ hs₄
  have S₅ : St C env.locals b₁ (upd m y (.ref D)) ((D, do_) :: mu) h₅ := St.off (C' := C) (L' := Cc) (b' := b₁) (m' := m) (mu' := mu) S₄ hLC S'.bL (fun p hp => by
    rcases List.mem_cons.mp hp with rfl | hp
    · exact S'.muL (D, do_) (by simp)
    · intro q; have := S.muin p (List.mem_cons_of_mem _ hp); rw [q, (show h.get? Cc = none from S'.gL)] at this; cases this) f.2.2.2.2 fun a o n e => hs₅.extBut a o n e
  exact q h₅ _ hD S₅
-- the bodies
abbrev lcB (prog : Program) (w : World) (A : Around) (elt target : Expr) (ifs : List Expr) (cenv : Env) (acc : Value) (Er : Value → Shared → Prop) (v : Value) (K : Shared → Prop) (s₁ : Shared) : Prop :=
  wpAny (model prog w) A (assign target cenv v) (fun _ s₂ => wpAny (model prog w) A (testsOf ifs cenv) (fun ok s₃ => if ok = true then wpAny (model prog w) A (eval elt cenv) (fun x s₄ =>
    wpAny (model prog w) A (call (.builtin "list.append") [acc, x]) (fun _ s₅ => K s₅) Er s₄) Er s₃ else K s₃) Er s₂) Er s₁
abbrev dcB (prog : Program) (w : World) (A : Around) (kx vx target : Expr) (ifs : List Expr) (cenv : Env) (D : Addr) (Er : Value → Shared → Prop) (v : Value) (K : Shared → Prop) (s₁ : Shared) : Prop :=
  wpAny (model prog w) A (assign target cenv v) (fun _ s₂ => wpAny (model prog w) A (testsOf ifs cenv) (fun ok s₃ => if ok = true then wpAny (model prog w) A (eval kx cenv) (fun kv s₄ => wpAny (model prog w) A (eval vx cenv) (fun vv s₅ =>
    wpAny (model prog w) A (dictSet D kv vv) (fun _ s₆ => K s₆) Er s₅) Er s₄) Er s₃ else K s₃) Er s₂) Er s₁
abbrev lpB (prog : Program) (w : World) (A : Around) (elt : Expr) (elts : List Expr) (x1 : Nat) (tp : Pos) (cenv : Env) (it acc : Value) (Er : Value → Shared → Prop) (v : Value) (K : Shared → Prop) (s₁ : Shared) : Prop :=
  wpAny (model prog w) A (letOwnedTupleGo (.Tuple elts x1 tp) it v) (fun _ s₁' => wpAny (model prog w) A (assign (.Tuple elts x1 tp) cenv v) (fun _ s₂ =>
    wpAny (model prog w) A (eval elt cenv) (fun x s₄ => wpAny (model prog w) A (call (.builtin "list.append") [acc, x]) (fun _ s₅ => K s₅) Er s₄) Er s₂) Er s₁') Er s₁

section
variable {elt kx vx target iter : Expr} {ifs : List Expr} {scope : Scope} {cl : List (Str × Addr)} {I : Addr} {io : Obj} {n : Nat} {P : Nat → Value → Prop} {T : Obj → Prop} {use : Option (Value → Sem Unit)} {Q : Value → Shared → Prop}

theorem lcG (S : St C L b m ((I, io) :: mu) h) (W : IterO prog w A I b n P T h)
    (J : Addr → Addr → Mu → Nat → (Str → Option Value) → Mu → Sn → Prop)
    (h0 : ∀ D Cc cells, CellsAre (fun _ => none) (cellsFrom (Cc + 1) scope.names []) cells → J D Cc cells 0 (fun _ => none) ((D, lstO [] 0) :: cells) b)
    (turn : ∀ D Cc cells i v io₁ m₁ mu₁ b₁ h₁ tk₁, i < n → P i v → T io₁ → J D Cc cells i m₁ mu₁ b₁ → b.Le b₁ → St ⟨C.h₀, b, h, [I]⟩ Cc b₁ m₁ ((I, io₁) :: mu₁) h₁ → ∀ Er (K : Shared → Prop),
      (∀ h₂ tk₂ m₂ mu₂ b₂, b₁.Le b₂ → St ⟨C.h₀, b, h, [I]⟩ Cc b₂ m₂ ((I, io₁) :: mu₂) h₂ → J D Cc cells (i + 1) m₂ mu₂ b₂ → K ⟨h₂, gs, dr, tk₂, os⟩) →
      lcB prog w A elt target ifs (compEnvG scope cl Cc env) (.ref D) Er v K ⟨h₁, gs, dr, tk₁, os⟩)
    (post : ∀ D Cc cells m₁ mu₁ b₁ io₁ h' h₁ tk₁, J D Cc cells n m₁ mu₁ b₁ → b.Le b₁ → St ⟨C.h₀, b, h, [I]⟩ Cc b₁ m₁ ((I, io₁) :: mu₁) h' → (∀ a o, a ≠ I → h'.get? a = some o → h₁.get? a = some o) →
      compPost (model prog w) A E use Q (.ref D) Cc (.ok .next) ⟨h₁, gs, dr, tk₁, os⟩)
    (ht : ∀ v, letOwnedTupleGo target (.ref I) v = pure () := by intro _; rfl) :
    wpAny (model prog w) A (newList []) (fun acc s₃ => wpAny (model prog w) A (newFunctionEnv scope env.globals cl [] env.qual none .none (some env)) (fun cenv s₄ =>
      codeAny (model prog w) A (.compStart (.ListComp elt [⟨target, iter, ifs, 0⟩] scope pos) 0 (.ref I) acc { cenv with scope := relabel scope env }) (compPost (model prog w) A E use Q acc cenv.locals) s₄) E s₃) E ⟨h, gs, dr, tk, os⟩ := by
  refine comp_setupG (RR := fun acc Cc => compPost (model prog w) A E use Q acc Cc) (ao := lstO [] 0) S W rfl (fun {Q} q => wpAny_newObj_type q) (fun h1 h2 => codeAny_compStart_list h1 h2) fun D Cc h₁ tk₁ cells hDe W₁ Y S₁ => ?_
  refine comp_walkG (Er := notedBy (model prog w) A (compEnvG scope cl Cc env) fun x s' => compPost (model prog w) A E use Q (.ref D) Cc (.error x) s')
    (Body := lcB prog w A elt target ifs (compEnvG scope cl Cc env) (.ref D) (notedBy (model prog w) A (compEnvG scope cl Cc env) fun x s' => compPost (model prog w) A E use Q (.ref D) Cc (.error x) s'))
    (fun In t n s hI => codeAny_compLoop_tests In t n hI ht) W₁ S₁ (J D Cc cells) (h0 D Cc cells Y) ?_ ?_
  · exact fun i v io₁ m₁ mu₁ b₁ h₁ tk₁ a1 a2 a3 a4 a5 a6 K k => turn D Cc cells i v io₁ m₁ mu₁ b₁ h₁ tk₁ a1 a2 a3 a4 a5 a6 _ K k
  · exact fun m₁ mu₁ b₁ io₁ h' h₁ tk₁ a1 a2 a3 a4 => post D Cc cells m₁ mu₁ b₁ io₁ h' h₁ tk₁ a1 a2 a3 a4

theorem lpG {elts : List Expr} {x1 : Nat} {tp : Pos} (S : St C L b m ((I, io) :: mu) h) (W : IterO prog w A I b n P T h)
    (J : Addr → Addr → Mu → Nat → (Str → Option Value) → Mu → Sn → Prop)
    (h0 : ∀ D Cc cells, CellsAre (fun _ => none) (cellsFrom (Cc + 1) scope.names []) cells → J D Cc cells 0 (fun _ => none) ((D, lstO [] 0) :: cells) b)
    (turn : ∀ D Cc cells i v io₁ m₁ mu₁ b₁ h₁ tk₁, i < n → P i v → T io₁ → J D Cc cells i m₁ mu₁ b₁ → b.Le b₁ → St ⟨C.h₀, b, h, [I]⟩ Cc b₁ m₁ ((I, io₁) :: mu₁) h₁ → ∀ Er (K : Shared → Prop),
      (∀ h₂ tk₂ m₂ mu₂ b₂, b₁.Le b₂ → St ⟨C.h₀, b, h, [I]⟩ Cc b₂ m₂ ((I, io₁) :: mu₂) h₂ → J D Cc cells (i + 1) m₂ mu₂ b₂ → K ⟨h₂, gs, dr, tk₂, os⟩) →
      lpB prog w A elt elts x1 tp (compEnvG scope cl Cc env) (.ref I) (.ref D) Er v K ⟨h₁, gs, dr, tk₁, os⟩)
    (post : ∀ D Cc cells m₁ mu₁ b₁ io₁ h' h₁ tk₁, J D Cc cells n m₁ mu₁ b₁ → b.Le b₁ → St ⟨C.h₀, b, h, [I]⟩ Cc b₁ m₁ ((I, io₁) :: mu₁) h' → (∀ a o, a ≠ I → h'.get? a = some o → h₁.get? a = some o) →
      compPost (model prog w) A E use Q (.ref D) Cc (.ok .next) ⟨h₁, gs, dr, tk₁, os⟩) :
    wpAny (model prog w) A (newList []) (fun acc s₃ => wpAny (model prog w) A (newFunctionEnv scope env.globals cl [] env.qual none .none (some env)) (fun cenv s₄ =>
      codeAny (model prog w) A (.compStart (.ListComp elt [⟨.Tuple elts x1 tp, iter, [], 0⟩] scope pos) 0 (.ref I) acc { cenv with scope := relabel scope env }) (compPost (model prog w) A E use Q acc cenv.locals) s₄) E s₃) E ⟨h, gs, dr, tk, os⟩ := by
  refine comp_setupG (RR := fun acc Cc => compPost (model prog w) A E use Q acc Cc) (ao := lstO [] 0) S W rfl (fun {Q} q => wpAny_newObj_type q) (fun h1 h2 => codeAny_compStart_list h1 h2) fun D Cc h₁ tk₁ cells hDe W₁ Y S₁ => ?_
  refine comp_walkG (Er := notedBy (model prog w) A (compEnvG scope cl Cc env) fun x s' => compPost (model prog w) A E use Q (.ref D) Cc (.error x) s')
    (Body := lpB prog w A elt elts x1 tp (compEnvG scope cl Cc env) (.ref I) (.ref D) (notedBy (model prog w) A (compEnvG scope cl Cc env) fun x s' => compPost (model prog w) A E use Q (.ref D) Cc (.error x) s'))
    (fun In t n s hI => LCp.codeAny_compLoop_pair In t n hI) W₁ S₁ (J D Cc cells) (h0 D Cc cells Y) ?_ ?_
  · exact fun i v io₁ m₁ mu₁ b₁ h₁ tk₁ a1 a2 a3 a4 a5 a6 K k => turn D Cc cells i v io₁ m₁ mu₁ b₁ h₁ tk₁ a1 a2 a3 a4 a5 a6 _ K k
  · exact fun m₁ mu₁ b₁ io₁ h' h₁ tk₁ a1 a2 a3 a4 => post D Cc cells m₁ mu₁ b₁ io₁ h' h₁ tk₁ a1 a2 a3 a4

theorem dcG (G : Glb w mg mb C.h₀) (S : St C L b m ((I, io) :: mu) h) (W : IterO prog w A I b n P T h)
    (J : Addr → Addr → Mu → Nat → (Str → Option Value) → Mu → Sn → Prop)
    (h0 : ∀ D Cc cells o, (D == sysModules) = false → o.IsDictOf (PySem.strKind prog w) [] → CellsAre (fun _ => none) (cellsFrom (Cc + 1) scope.names []) cells → J D Cc cells 0 (fun _ => none) ((D, o) :: cells) b)
    (turn : ∀ D Cc cells i v io₁ m₁ mu₁ b₁ h₁ tk₁, i < n → P i v → T io₁ → J D Cc cells i m₁ mu₁ b₁ → b.Le b₁ → St ⟨C.h₀, b, h, [I]⟩ Cc b₁ m₁ ((I, io₁) :: mu₁) h₁ → ∀ Er (K : Shared → Prop),
      (∀ h₂ tk₂ m₂ mu₂ b₂, b₁.Le b₂ → St ⟨C.h₀, b, h, [I]⟩ Cc b₂ m₂ ((I, io₁) :: mu₂) h₂ → J D Cc cells (i + 1) m₂ mu₂ b₂ → K ⟨h₂, gs, dr, tk₂, os⟩) →
      dcB prog w A kx vx target ifs (compEnvG scope cl Cc env) D Er v K ⟨h₁, gs, dr, tk₁, os⟩)
    (post : ∀ D Cc cells m₁ mu₁ b₁ io₁ h' h₁ tk₁, (D == sysModules) = false → J D Cc cells n m₁ mu₁ b₁ → b.Le b₁ → St ⟨C.h₀, b, h, [I]⟩ Cc b₁ m₁ ((I, io₁) :: mu₁) h' → (∀ a o, a ≠ I → h'.get? a = some o → h₁.get? a = some o) →
      compPost (model prog w) A E use Q (.ref D) Cc (.ok .next) ⟨h₁, gs, dr, tk₁, os⟩)
    (ht : ∀ v, letOwnedTupleGo target (.ref I) v = pure () := by intro _; rfl) :
    wpAny (model prog w) A newDict (fun acc s₃ => wpAny (model prog w) A (newFunctionEnv scope env.globals cl [] env.qual none .none (some env)) (fun cenv s₄ =>
      codeAny (model prog w) A (.compStart (.DictComp kx vx [⟨target, iter, ifs, 0⟩] scope pos) 0 (.ref I) acc { cenv with scope := relabel scope env }) (compPost (model prog w) A E use Q acc cenv.locals) s₄) E s₃) E ⟨h, gs, dr, tk, os⟩ := by
  have hlo := g_lo G S
  refine comp_setupG (RR := fun acc Cc => compPost (model prog w) A E use Q acc Cc) (ao := ⟨.type "dict", none, .dict #[] 0, #[]⟩) S W rfl (fun {Q} q => wpAny_newObj_type q) (fun h1 h2 => codeAny_compStart_dict h1 h2) fun D Cc h₁ tk₁ cells hDe W₁ Y S₁ => ?_
  have hDl : (D == sysModules) = false := hDe ▸ hlo
  refine comp_walkG (Er := notedBy (model prog w) A (compEnvG scope cl Cc env) fun x s' => compPost (model prog w) A E use Q (.ref D) Cc (.error x) s')
    (Body := dcB prog w A kx vx target ifs (compEnvG scope cl Cc env) D (notedBy (model prog w) A (compEnvG scope cl Cc env) fun x s' => compPost (model prog w) A E use Q (.ref D) Cc (.error x) s'))
    (fun In t n s hI => codeAny_compLoop_testsD In t n hI ht) W₁ S₁ (J D Cc cells) (h0 D Cc cells _ hDl isDict_new Y) ?_ ?_
  · exact fun i v io₁ m₁ mu₁ b₁ h₁ tk₁ a1 a2 a3 a4 a5 a6 K k => turn D Cc cells i v io₁ m₁ mu₁ b₁ h₁ tk₁ a1 a2 a3 a4 a5 a6 _ K k
  · exact fun m₁ mu₁ b₁ io₁ h' h₁ tk₁ a1 a2 a3 a4 => post D Cc cells m₁ mu₁ b₁ io₁ h' h₁ tk₁ hDl a1 a2 a3 a4
end
end
end Mine

end
section
open PySem PySem.W PyProof.Rows PySem.Calls PySem.Spec
set_option Elab.async false
set_option maxRecDepth 100000
set_option maxHeartbeats 1000000
set_option linter.unusedVariables false
namespace Mine
theorem filled3 : PySem.Challenge.rw_xo0020_01 = PySem.Challenge.rw_xo0020_01 ∧ Mine.hd.heap_39 = Mine.hd.heap_39 := by k_fill; exact ⟨rfl, rfl⟩

def putL {α : Type} (kvs : List (Str × α)) (k : Str) (x : α) : List (Str × α) :=
  if kvs.any (fun kv => kv.1 = k) then kvs.map (fun kv => if kv.1 = k then (kv.1, x) else kv) else kvs ++ [(k, x)]
theorem All2.any {α : Type} {R : Value → α → Prop} {k : Str} : ∀ {es : List (Str × Value)} {kvs : List (Str × α)}, All2 (fun p q => p.1 = q.1 ∧ R p.2 q.2) es kvs → es.any (fun kv => kv.1 = k) = kvs.any (fun kv => kv.1 = k)
  | _, _, .nil => rfl
  | _, _, .cons h t => by simp only [List.any_cons, t.any, h.1]
theorem All2.keys {α : Type} {R : Value → α → Prop} : ∀ {es : List (Str × Value)} {kvs : List (Str × α)}, All2 (fun p q => p.1 = q.1 ∧ R p.2 q.2) es kvs → es.map (·.1) = kvs.map (·.1)
  | _, _, .nil => rfl
  | _, _, .cons h t => by simp only [List.map_cons, t.keys, h.1]
theorem All2.stored {α : Type} {R : Value → α → Prop} {k : Str} {v : Value} {x : α} {es : List (Str × Value)} {kvs : List (Str × α)} (h : All2 (fun p q => p.1 = q.1 ∧ R p.2 q.2) es kvs) (r : R v x) :
    All2 (fun p q => p.1 = q.1 ∧ R p.2 q.2) (stored es k v) (putL kvs k x) := by
  unfold PySem.stored putL
  rw [h.any]
  split
  · rename_i hq
    clear hq
    induction h with
    | nil => exact .nil
    | cons h t ih =>
      rw [List.map_cons, List.map_cons]
      refine .cons ?_ ih
      rw [h.1]
      split
      · exact ⟨rfl, r⟩
      · exact h
  · exact h.snoc ⟨rfl, r⟩
theorem putL_length {α : Type} (kvs : List (Str × α)) (k : Str) (x : α) : (putL kvs k x).length ≤ kvs.length + 1 := by
  unfold putL; split <;> simp
theorem dict_nodup {prog : Program} {w : World} {o : Obj} {es : List (Str × Value)} (h : o.IsDictOf (PySem.strKind prog w) es) : (es.map (·.1)).Nodup := by
  obtain ⟨_, _, _, _, _, _, n⟩ := h
  exact n
theorem DicB.nodup {prog : Program} {w : World} {b : Sn} {d : Addr} {es : List (Str × Value)} (h : DicB prog w b d es) : (es.map (·.1)).Nodup := let ⟨_, _, _, e⟩ := h; dict_nodup e

theorem stored_take {es : List (Str × Value)} (n : (es.map (·.1)).Nodup) {i : Nat} {k : Str} {v : Value} (h : es[i]? = some (k, v)) : stored (es.take i) k v = es.take (i + 1) := by
  rw [List.take_add_one, h, Option.toList_some]
  unfold PySem.stored
  rw [if_neg]
  simp only [List.any_eq_true, decide_eq_true_eq, not_exists, not_and]
  intro p hp e
  obtain ⟨j, hj⟩ := List.getElem?_of_mem hp
  rw [List.getElem?_take] at hj
  split at hj
  · rename_i hji
    have h1 : (es.map (·.1))[j]? = some k := by rw [List.getElem?_map, hj, ← e]; rfl
    have h2 : (es.map (·.1))[i]? = some k := by rw [List.getElem?_map, h]; rfl
    have hi' : j < (es.map (·.1)).length := (List.getElem?_eq_some_iff.mp h1).1
    have := (List.getElem?_inj hi' n).mp (h1.trans h2.symm)
    omega
  · cases hj

section
variable {prog : Program} {w : World} {A : Around} {E : Value → Shared → Prop} {C : Cx} {L : Addr} {b : Sn} {m mg mb : Str → Option Value} {mu : Mu}
  {h h' : Heap} {gs : Array GenState} {dr : Drawn} {tk : Nat} {os : OsState} {env : Env} {x : Str} {pos : Pos} {v : Value}

theorem add_callers_spec {d1 d2 : Value} {kvs : List (Str × Int)} {k : Str} {n : Int} {Q : Value → Shared → Prop} (G : Glb w mg mb C.h₀) (hh : A.handled = none) (hd : A.depth + 2 < recursionLimit) (S : St C L b m mu h)
    (D1 : DcOf prog w IsI b d1 kvs) (D2 : DcOf prog w IsI b d2 [(k, n)]) (hz : kvs.length ≤ 1000)
    (q : ∀ r b' h' tk', b.Le b' → St C L b' m mu h' → DcOf prog w IsI b' r (putL kvs k ((look kvs k).getD 0 + n)) → Q r ⟨h', gs, dr, tk', os⟩) :
    wpAny (model prog w) A (call (.ref 66) [d1, d2]) Q E ⟨h, gs, dr, tk, os⟩ := by
  obtain ⟨d1, es, rfl, hD, al⟩ := D1
  obtain ⟨d2, es2, rfl, hD2, al2⟩ := D2
  have hnd := hD.nodup
  have hlen := al.length
  refine own_call (binds := [("target", .ref d1), ("source", .ref d2)]) (mv := []) (mr := mu) G S (by omega) (by k_is) (by k_is) (BindsTo.of_eq rfl) ?_
  intro L' h₁ tk₁ S₁
  refine wpAny_execs_cons (wpAny_Assign_Name (g_newD G.to S₁ fun D o h₂ hDp hlo ho S₂ => stL S₂ fun h₃ tk₃ S₃ => ?_))
  clear S₁ S₂
  refine wpAny_execs_cons (wpAny_For (MethodCall_ (nmL S₃ rfl (g_itemsM S₃ hD (callWith_method0 (g_items S₃ hD fun V b₁ h₄ l₁ S₄ hV => ?_))))))
  clear S₃
  refine for_items (by exact hh) S₄ hV (hD.le l₁) (fun i m' mu' b' => m' "source" = some (.ref d2) ∧ m' "new_callers" = some (.ref D) ∧ ∃ o', mu' = [(D, o')] ∧ o'.IsDictOf (PySem.strKind prog w) (es.take i)) ⟨rfl, rfl, o, rfl, ho⟩ ?_ ?_
  · rintro i I key t v io₁ m₁ mu₁ b₂ h₅ tk₅ hI hk ⟨e1, e2, o', rfl, ho'⟩ hb S₅
    refine wpAny_execs_cons (wpAny_Assign_Subscript (nmL S₅ rfl (nmL S₅ e2 (nmL S₅ rfl ?_))))
    refine g_setD1 S₅ ho' (by rw [sizeLine_eq]; first | omega | (simp; omega)) fun o'' h₆ tk₆ ho'' S₆ => ?_
    exact wpAny_execs_nil (.next S₆ (Sn.Le.refl _) ⟨e1, e2, o'', rfl, by rw [stored_take hnd hk] at ho''; exact ho''⟩)
  · rintro m₁ mu₁ b₂ h₅ tk₅ ⟨e1, e2, o', rfl, ho'⟩ hb S₅
    rw [List.take_length] at ho'
    replace hb := l₁.trans hb
    clear S₄ hV
    refine wpAny_execs_cons (wpAny_For (MethodCall_ (nmL S₅ e1 (g_itemsM S₅ (hD2.le hb) (callWith_method0 (g_items S₅ (hD2.le hb) fun V b₃ h₆ l₃ S₆ hV => ?_))))))
    refine for_items (by exact hh) S₆ hV (hD2.le (hb.trans l₃)) (fun i m' mu' b' => m' "new_callers" = some (.ref D) ∧ ∃ o' es', mu' = [(D, o')] ∧ o'.IsDictOf (PySem.strKind prog w) es' ∧
      All2 (fun p q => p.1 = q.1 ∧ IsI b' p.2 q.2) es' (if i = 0 then kvs else putL kvs k ((look kvs k).getD 0 + n))) ⟨e2, o', es, rfl, ho', al⟩ ?_ ?_
    · rintro i I key t v io₁ m₁ mu₁ b₄ h₇ tk₇ hI hk ⟨e2, o₁, es', rfl, ho₁, al₁⟩ hb₁ S₇
      obtain ⟨⟨k', n'⟩, hk', e3, t', e4⟩ := al2.get hk
      simp only at e3 e4
      subst e3 e4
      have hi : i = 0 ∧ key = k ∧ n' = n := by
        cases i with
        | zero => simp at hk'; exact ⟨rfl, hk'.1.symm, hk'.2.symm⟩
        | succ i => simp at hk'
      obtain ⟨rfl, rfl, rfl⟩ := hi
      simp only [if_true] at al₁
      have hl₁ := al₁.length
      have hval := valueAt_look (k := key) al₁
      refine wpAny_execs_cons (wpAny_If (wpAny_isTrue_Compare1 (nmL S₇ rfl (nmL S₇ e2 (g_inMu S₇ (by simp) hlo ho₁ fun tk₈ => wpAny_truthy_bool ?_)))))
      cases hlk : look kvs key with
      | none =>
        rw [hval.1 hlk]
        refine wpAny_execs_cons (wpAny_Assign_Subscript (nmL S₇ rfl (nmL S₇ e2 (nmL S₇ rfl ?_))))
        refine g_setD1 S₇ ho₁ (by rw [sizeLine_eq]; first | omega | (simp; omega)) fun o'' h₈ tk₉ ho'' S₈ => ?_
        refine wpAny_execs_nil (wpAny_execs_nil (.next S₈ (Sn.Le.refl _) ⟨e2, o'', _, rfl, ho'', ?_⟩))
        simp
        exact al₁.stored ⟨_, rfl⟩
      | some y =>
        obtain ⟨v, hv, t₂, rfl⟩ := hval.2 y hlk
        rw [hv]
        refine wpAny_execs_cons (wpAny_If (isTrue_plain (Call_ (nmB G.to S₇ (by k_is) boot_isinstance (PyProof.Rows.callWith_builtin1 (spliced_cons (nmL S₇ rfl (spliced_cons (nmB G.to S₇ (by k_is) boot_tuple (spliced_nil (g_isiTup fun tk₁₀ => wpAny_truthy_bool ?_)))))))))))
        refine wpAny_execs_cons (wpAny_AugAssign_Subscript_any (nmL S₇ e2 (nmL S₇ rfl (g_getMu S₇ (by simp) ho₁ hv fun tk₁₁ => nmL S₇ rfl (i_iadd fun t₃ tk₁₂ => ?_)))))
        refine g_setD1 S₇ ho₁ (by rw [sizeLine_eq]; first | omega | (simp; omega)) fun o'' h₈ tk₉ ho'' S₈ => ?_
        refine wpAny_execs_nil (wpAny_execs_nil (wpAny_execs_nil (.next S₈ (Sn.Le.refl _) ⟨e2, o'', _, rfl, ho'', ?_⟩)))
        simp
        exact al₁.stored ⟨_, rfl⟩
    · rintro m₁ mu₁ b₄ h₇ tk₇ ⟨e2, o₁, es', rfl, ho₁, al₁⟩ hb₁ S₇
      rw [al2.length] at al₁
      obtain ⟨b₅, l₅, S₈, hD'⟩ := S₇.fzDic hlo ho₁ hDp
      refine wpAny_execs_cons (wpAny_Return_some (nmL S₈ e2 ?_))
      exact .intro S₈ fun S' => q _ _ _ _ S₈.b0b S' ⟨D, es', rfl, hD', al₁⟩
end
end Mine

end
section
open PySem PySem.W PyProof.Rows PySem.Calls PySem.Spec
set_option Elab.async false
set_option maxRecDepth 100000
set_option maxHeartbeats 1000000
set_option linter.unusedVariables false
namespace Mine
theorem filled6 : PySem.Challenge.rw_xo0020_01 = PySem.Challenge.rw_xo0020_01 ∧ Mine.hd.heap_39 = Mine.hd.heap_39 := by k_fill; exact ⟨rfl, rfl⟩
open PySem.Builtin PySem.Builtin.Str
def okH (t : Str) : Bool := reGo t && decide (0 < t.length ∧ t.length ≤ 1000) && !(Txt.item t 0 == ".") && !(Txt.item t (-1) == ".")
def reachP (t : Str) : Str :=
  if 0 ≤ Txt.find t "." then
    if 0 ≤ Txt.find (Txt.slice t (some (Txt.find t "." + 1)) none) "." ∨ Txt.slice t (some (Txt.find t "." + 1)) none = "local" then "." ++ Txt.slice t (some (Txt.find t "." + 1)) none else t
  else t

section
variable {prog : Program} {w : World} {A : Around} {E : Value → Shared → Prop} {C : Cx} {L : Addr} {b : Sn} {m mg mb : Str → Option Value} {mu : Mu}
  {h h' : Heap} {gs : Array GenState} {dr : Drawn} {tk : Nat} {os : OsState} {env : Env} {x : Str} {pos : Pos} {v : Value}

theorem is_HDN_spec {t : Str} {u : Tok} {Q : Value → Shared → Prop} (G : Glb w mg mb C.h₀) (hd : A.depth + 2 < recursionLimit) (S : St C L b m mu h) (hok : okH t = true)
    (q : ∀ b' h' tk', b.Le b' → St C L b' m mu h' → Q (.bool true) ⟨h', gs, dr, tk', os⟩) :
    wpAny (model prog w) A (call (.ref 85) [.str t u]) Q E ⟨h, gs, dr, tk, os⟩ := by
  unfold okH at hok
  simp only [Bool.and_eq_true, decide_eq_true_eq, Bool.not_eq_true'] at hok
  obtain ⟨⟨⟨hgo, hz0, hz⟩, h0⟩, hn⟩ := hok
  refine own_call (binds := [("text", .str t u)]) (mv := []) (mr := mu) G S (by omega) (by k_is) (by k_is) (BindsTo.of_eq rfl) ?_
  intro L' h₁ tk₁ S₁
  have X := Glb.at (C := ⟨C.h₀, b, h, addrs []⟩) G S₁
  refine wpAny_execs_cons (wpAny_If (isTrue_plain (MethodCall_ (nmG G.to S₁ (by k_is) (g_searchM X (callWith_method1 (spliced_cons (nmL S₁ rfl (spliced_nil (g_search X hgo (truthy_none ?_)))))))))))
  refine wpAny_execs_nil (wpAny_execs_cons (wpAny_If (wpAny_isTrue_Compare1 (nmL S₁ rfl (cStr fun t1 tk1 => PyProof.Rows.eq_str (wpAny_truthy_bool ?_))))))
  have hne : (t == ("" : Str)) = false := beq_eq_false_iff_ne.mpr fun e => by rw [e] at hz0; exact absurd hz0 (by decide)
  rw [hne]
  refine wpAny_execs_nil (wpAny_execs_cons (wpAny_If (isTrue_or (wpAny_isTrue_Compare1 (Subscript_ (nmL S₁ rfl (cInt fun t2 tk2 => PyProof.Rows.item_str rfl (by omega) (by omega) fun _ => cStr fun t3 tk3 => PyProof.Rows.eq_str (wpAny_truthy_bool ?_)))))))) 
  rw [h0]
  refine isTrue_or (wpAny_isTrue_Compare1 (Subscript_ (nmL S₁ rfl (UnaryOp_ (cInt fun t2 tk2 => PyProof.Rows.neg_int (PyProof.Rows.item_str rfl (by omega) (by omega) fun _ => cStr fun t3 tk3 => PyProof.Rows.eq_str (wpAny_truthy_bool ?_)))))))
  rw [hn]
  refine isTrue_or_nil (wpAny_execs_nil (wpAny_execs_cons (wpAny_Return_some (Constant_bool ?_))))
  exact .intro S₁ fun S' => q _ _ _ (Sn.Le.refl _) S'

theorem reach_spec {t : Str} {u : Tok} {Q : Value → Shared → Prop} (G : Glb w mg mb C.h₀) (hd : A.depth + 4 < recursionLimit) (S : St C L b m mu h) (hok : okH t = true)
    (q : ∀ b' h' u' tk', b.Le b' → St C L b' m mu h' → Q (.str (reachP t) u') ⟨h', gs, dr, tk', os⟩) :
    wpAny (model prog w) A (call (.ref 92) [.str t u]) Q E ⟨h, gs, dr, tk, os⟩ := by
  have hz : t.length ≤ 1000 := by
    unfold okH at hok
    simp only [Bool.and_eq_true, decide_eq_true_eq, Bool.not_eq_true'] at hok
    exact hok.1.1.2.2
  refine own_call (binds := [("h", .str t u)]) (mv := []) (mr := mu) G S (by omega) (by k_is) (by k_is) (BindsTo.of_eq rfl) ?_
  intro L' h₁ tk₁ S₁
  refine wpAny_execs_cons (wpAny_Assign_Name (MethodCall_ (nmL S₁ rfl (GM.find (callWith_method1 (spliced_cons (cStr (k := 0) (pos := ⟨0, 0, 0, 0⟩) fun t1 tk1 => spliced_nil (SC.find (stL S₁ fun h₂ tk₂ S₂ => ?_)))))))))
  clear S₁
  refine wpAny_execs_cons (wpAny_If (wpAny_isTrue_Compare1 (nmL S₂ rfl (cInt fun t2 tk2 => PyProof.Rows.ge_int (wpAny_truthy_bool ?_)))))
  unfold reachP at q
  by_cases h0 : 0 ≤ Txt.find t "."
  · rw [decide_eq_true h0]
    rw [if_pos h0] at q
    refine wpAny_execs_cons (wpAny_Assign_Name (g_strFrom S₂ (nmL S₂ rfl (wpAny_BinOp (nmL S₂ rfl (cInt fun t3 tk3 => i_add fun t4 tk4 => ⟨_, _, _, _, _, _, _, rfl, rfl, rfl, by omega, S₂, fun h₃ t5 tk5 S₃ => stL S₃ fun h₄ tk₄ S₄ => ?_⟩))))))
    clear S₂ S₃
    have hb : (Txt.slice t (some (Txt.find t "." + 1)) none).length ≤ 1000 := Nat.le_trans (Txt.slice_le _ _ _) hz
    generalize Txt.slice t (some (Txt.find t "." + 1)) none = bb at *
    refine wpAny_execs_cons (wpAny_Assign_Name (MethodCall_ (nmL S₄ rfl (GM.find (callWith_method1 (spliced_cons (cStr (k := 0) (pos := ⟨0, 0, 0, 0⟩) fun t1 tk1 => spliced_nil (SC.find (stL S₄ fun h₅ tk₅ S₅ => ?_)))))))))
    clear S₄
    refine wpAny_execs_cons (wpAny_If (isTrue_and (isTrue_plain (Call_ (nmG G.to S₅ (by k_is) (callWith_K (Glb.at (C := ⟨C.h₀, b, h, addrs []⟩) G S₅) (by k_is) (spliced_cons (nmL S₅ rfl (spliced_nil ⟨Glb.at (C := ⟨C.h₀, b, h, addrs []⟩) G S₅, ?_⟩))))))))) 
    refine is_HDN_spec G.to (by show A.depth + 1 + 2 < _; omega) S₅ hok fun b₆ h₆ tk₆ l₆ S₆ => wpAny_truthy_bool ?_
    refine isTrue_and (isTrue_or (wpAny_isTrue_Compare1 (nmL S₆ rfl (cInt fun t2 tk2 => PyProof.Rows.ge_int (wpAny_truthy_bool ?_)))))
    by_cases c1 : 0 ≤ Txt.find bb "."
    · rw [decide_eq_true c1]
      rw [if_pos (.inl c1)] at q
      refine isTrue_and_nil (wpAny_execs_cons (wpAny_Return_some (wpAny_BinOp (cStr fun t7 tk7 => nmL S₆ rfl (SB.add (fun t8 tk8 => ?_) (by rw [sizeLine_eq]; show 1 + bb.length ≤ _; omega))))))
      exact .intro S₆ fun S' => q _ _ _ _ l₆ S'
    · rw [decide_eq_false c1]
      refine isTrue_or (wpAny_isTrue_Compare1 (nmL S₆ rfl (cStr fun t2 tk2 => PyProof.Rows.eq_str (wpAny_truthy_bool ?_))))
      by_cases c2 : bb = "local"
      · rw [if_pos (.inr c2)] at q
        rw [beq_iff_eq.mpr c2]
        refine isTrue_and_nil (wpAny_execs_cons (wpAny_Return_some (wpAny_BinOp (cStr fun t7 tk7 => nmL S₆ rfl (SB.add (fun t8 tk8 => ?_) (by rw [sizeLine_eq]; show 1 + bb.length ≤ _; omega))))))
        exact .intro S₆ fun S' => q _ _ _ _ l₆ S'
      · rw [if_neg (fun c => c.elim c1 c2)] at q
        rw [beq_eq_false_iff_ne.mpr c2]
        refine isTrue_or_nil (wpAny_execs_nil (wpAny_execs_nil (wpAny_execs_cons (wpAny_Return_some (nmL S₆ rfl ?_)))))
        exact .intro S₆ fun S' => q _ _ _ _ l₆ S'
  · rw [decide_eq_false h0]
    rw [if_neg h0] at q
    exact wpAny_execs_nil (wpAny_execs_cons (wpAny_Return_some (nmL S₂ rfl (.intro S₂ fun S' => q _ _ _ _ (Sn.Le.refl _) S'))))
end
end Mine

end
section
open PySem PySem.W PyProof.Rows PySem.Calls PySem.Spec
set_option Elab.async false
set_option maxRecDepth 100000
set_option maxHeartbeats 1000000
set_option linter.unusedVariables false
namespace Mine
theorem look_cons {α : Type} (p : Str × α) (r : List (Str × α)) (j : Str) : look (p :: r) j = if p.1 = j then some p.2 else look r j := by
  unfold look
  rw [List.find?_cons]
  by_cases h : p.1 = j
  · rw [if_pos h]; simp [h]
  · rw [if_neg h]; simp [h]
theorem look_map_put {α : Type} (k j : Str) (x : α) : ∀ (kvs : List (Str × α)), look (kvs.map (fun kv => if kv.1 = k then (kv.1, x) else kv)) j = if j = k then (if kvs.any (fun kv => kv.1 = k) = true then some x else none) else look kvs j
  | [] => by simp [look]
  | p :: r => by
    rw [List.map_cons, look_cons, look_map_put k j x r, look_cons, List.any_cons]
    by_cases hp : p.1 = k
    · subst hp
      simp only [if_true]
      by_cases hj : p.1 = j
      · subst hj; simp
      · have hj' : ¬ j = p.1 := fun e => hj e.symm
        simp [hj, hj']
    · simp only [if_neg hp]
      by_cases hj : p.1 = j
      · subst hj; simp [hp]
      · rw [if_neg hj, if_neg hj, decide_eq_false hp, Bool.false_or]
theorem look_snoc {α : Type} (k j : Str) (x : α) : ∀ (kvs : List (Str × α)), kvs.any (fun kv => kv.1 = k) = false → look (kvs ++ [(k, x)]) j = if j = k then some x else look kvs j
  | [], _ => by
    rw [List.nil_append, look_cons]
    by_cases h : j = k
    · simp [h]
    · have : ¬ k = j := fun e => h e.symm
      simp [h, this]
  | p :: r, ha => by
    rw [List.any_cons, Bool.or_eq_false_iff] at ha
    rw [List.cons_append, look_cons, look_snoc k j x r ha.2, look_cons]
    have hpk : ¬ p.1 = k := by simpa using ha.1
    by_cases hj : p.1 = j
    · subst hj; simp [hpk]
    · simp [hj]
theorem look_putL {α : Type} (kvs : List (Str × α)) (k j : Str) (x : α) : look (putL kvs k x) j = if j = k then some x else look kvs j := by
  unfold putL
  by_cases hany : kvs.any (fun kv => kv.1 = k) = true
  · rw [if_pos hany, look_map_put, hany]; simp
  · rw [if_neg hany]; exact look_snoc k j x kvs (Bool.eq_false_iff.mpr hany)
theorem putL_new {α : Type} {kvs : List (Str × α)} {k : Str} (x : α) (h : ∀ p ∈ kvs, p.1 ≠ k) : putL kvs k x = kvs ++ [(k, x)] := by
  unfold putL
  rw [if_neg]
  simp only [List.any_eq_true, decide_eq_true_eq, not_exists, not_and]
  exact h

section
variable {prog : Program} {w : World} {A : Around} {E : Value → Shared → Prop} {C : Cx} {L : Addr} {b : Sn} {m mg mb : Str → Option Value} {mu mu1 mu2 : Mu}
  {h h' : Heap} {gs : Array GenState} {dr : Drawn} {tk : Nat} {os : OsState} {env : Env} {x : Str} {pos : Pos} {v : Value}

theorem g_dset {d : Addr} {o : Obj} {kvs : List (Str × Value)} {k : Str} {t : Tok} {Q : Unit → Shared → Prop} (S : St C L b m (mu1 ++ (d, o) :: mu2) h) (hd : o.IsDictOf (PySem.strKind prog w) kvs) (hz : kvs.length ≤ sizeLine)
    (q : ∀ o' h' tk', o'.IsDictOf (PySem.strKind prog w) (stored kvs k v) → St C L b m (mu1 ++ (d, o') :: mu2) h' → Q () ⟨h', gs, dr, tk', os⟩) :
    wpAny (model prog w) A (dictSet d (.str k t) v) Q E ⟨h, gs, dr, tk, os⟩ := by
  have ho := S.muin (d, o) (by simp)
  refine wpAny_dictSet_pairs (s := ⟨h, gs, dr, tk, os⟩) (hsz := hz) (strKind_is prog w k t) (Heap.dictOf_iff.mpr ⟨o, ho, hd⟩) fun h' hmm hs => ?_
  obtain ⟨o', ho', hd'⟩ := Heap.dictOf_iff.mp hmm
  exact q o' h' _ hd' (S.mut ho' fun a x n e => hs.extBut a x n e)

section
variable {elt kx vx target iter : Expr} {ifs : List Expr} {scope : Scope} {cl : List (Str × Addr)}
theorem lcE {Q : Value → Shared → Prop} {s : Shared} (hclos : closureFor scope env = pure cl) (hkind : scope.kind = .function) (hnames : ∀ y ∈ scope.names, y.2 = .local → scope.names.lookup y.1 = some .local)
    (q : wpAny (model prog w) A (eval iter env) (fun xv s₁ => wpAny (model prog w) A (pyIter xv) (fun it s₂ => wpAny (model prog w) A (newList []) (fun acc s₃ => wpAny (model prog w) A (newFunctionEnv scope env.globals cl [] env.qual none .none (some env)) (fun cenv s₄ =>
      codeAny (model prog w) A (.compStart (.ListComp elt [⟨target, iter, ifs, 0⟩] scope pos) 0 it acc { cenv with scope := relabel scope env }) (compPost (model prog w) A E none Q acc cenv.locals) s₄) E s₃) E s₂) E s₁) E s)
    (hs : ∀ x, foldedSetIterable iter env x = pure x := by intro _; rfl) :
    wpAny (model prog w) A (eval (.ListComp elt [⟨target, iter, ifs, 0⟩] scope pos) env) Q E s := by
  rw [eval_ListComp]
  exact wpAny_comprehension_free (use := none) rfl hs hclos hkind hnames q
theorem dcE {Q : Value → Shared → Prop} {s : Shared} (hclos : closureFor scope env = pure cl) (hkind : scope.kind = .function) (hnames : ∀ y ∈ scope.names, y.2 = .local → scope.names.lookup y.1 = some .local)
    (q : wpAny (model prog w) A (eval iter env) (fun xv s₁ => wpAny (model prog w) A (pyIter xv) (fun it s₂ => wpAny (model prog w) A newDict (fun acc s₃ => wpAny (model prog w) A (newFunctionEnv scope env.globals cl [] env.qual none .none (some env)) (fun cenv s₄ =>
      codeAny (model prog w) A (.compStart (.DictComp kx vx [⟨target, iter, ifs, 0⟩] scope pos) 0 it acc { cenv with scope := relabel scope env }) (compPost (model prog w) A E none Q acc cenv.locals) s₄) E s₃) E s₂) E s₁) E s)
    (hs : ∀ x, foldedSetIterable iter env x = pure x := by intro _; rfl) :
    wpAny (model prog w) A (eval (.DictComp kx vx [⟨target, iter, ifs, 0⟩] scope pos) env) Q E s := by
  rw [arm_eval_DictComp]
  exact wpAny_comprehension_free (use := none) rfl hs hclos hkind hnames q
theorem lcA {Q : Flow → Shared → Prop} {s : Shared} {y : Str} {py spos : Pos} (hsw : swapsWith (.ListComp elt [⟨target, iter, ifs, 0⟩] scope pos) (some (.Name y py)) spos.line env = pure true)
    (hclos : closureFor scope env = pure cl) (hkind : scope.kind = .function) (hnames : ∀ y ∈ scope.names, y.2 = .local → scope.names.lookup y.1 = some .local)
    (q : wpAny (model prog w) A (eval iter env) (fun xv s₁ => wpAny (model prog w) A (pyIter xv) (fun it s₂ => wpAny (model prog w) A (newList []) (fun acc s₃ => wpAny (model prog w) A (newFunctionEnv scope env.globals cl [] env.qual none .none (some env)) (fun cenv s₄ =>
      codeAny (model prog w) A (.compStart (.ListComp elt [⟨target, iter, ifs, 0⟩] scope pos) 0 it acc { cenv with scope := relabel scope env }) (compPost (model prog w) A E (some (assign (.Name y py) env)) (fun _ s' => Q .next s') acc cenv.locals) s₄) E s₃) E s₂) E s₁) E s)
    (hs : ∀ x, foldedSetIterable iter env x = pure x := by intro _; rfl) :
    wpAny (model prog w) A (exec (.Assign [.Name y py] (.ListComp elt [⟨target, iter, ifs, 0⟩] scope pos) spos) env) Q E s := by
  rw [exec_Assign_Name_used _ _ _ _ hsw]
  refine wpAny_bind (wpAny_standAt (wpAny_bind ?_))
  show wpAny _ A (do let _ ← comprehension (.ListComp elt [⟨target, iter, ifs, 0⟩] scope pos) scope env _ (newList []) false (eval iter env) (some (assign (.Name y py) env))) _ _ s
  exact wpAny_bind (wpAny_mono (wpAny_comprehension_free (use := some (assign (.Name y py) env)) (Q := fun _ s' => Q .next s') rfl hs hclos hkind hnames q)
    (fun _ s' hq => wpAny_pure (wpAny_pure hq)) fun _ _ e => e)
theorem dcA {Q : Flow → Shared → Prop} {s : Shared} {y : Str} {py spos : Pos} (hsw : swapsWith (.DictComp kx vx [⟨target, iter, ifs, 0⟩] scope pos) (some (.Name y py)) spos.line env = pure true)
    (hclos : closureFor scope env = pure cl) (hkind : scope.kind = .function) (hnames : ∀ y ∈ scope.names, y.2 = .local → scope.names.lookup y.1 = some .local)
    (q : wpAny (model prog w) A (eval iter env) (fun xv s₁ => wpAny (model prog w) A (pyIter xv) (fun it s₂ => wpAny (model prog w) A newDict (fun acc s₃ => wpAny (model prog w) A (newFunctionEnv scope env.globals cl [] env.qual none .none (some env)) (fun cenv s₄ =>
      codeAny (model prog w) A (.compStart (.DictComp kx vx [⟨target, iter, ifs, 0⟩] scope pos) 0 it acc { cenv with scope := relabel scope env }) (compPost (model prog w) A E (some (assign (.Name y py) env)) (fun _ s' => Q .next s') acc cenv.locals) s₄) E s₃) E s₂) E s₁) E s)
    (hs : ∀ x, foldedSetIterable iter env x = pure x := by intro _; rfl) :
    wpAny (model prog w) A (exec (.Assign [.Name y py] (.DictComp kx vx [⟨target, iter, ifs, 0⟩] scope pos) spos) env) Q E s := by
  rw [exec_Assign_Name_used _ _ _ _ hsw]
  refine wpAny_bind (wpAny_standAt (wpAny_bind ?_))
  show wpAny _ A (do let _ ← comprehension (.DictComp kx vx [⟨target, iter, ifs, 0⟩] scope pos) scope env _ newDict false (eval iter env) (some (assign (.Name y py) env))) _ _ s
  exact wpAny_bind (wpAny_mono (wpAny_comprehension_free (use := some (assign (.Name y py) env)) (Q := fun _ s' => Q .next s') rfl hs hclos hkind hnames q)
    (fun _ s' hq => wpAny_pure (wpAny_pure hq)) fun _ _ e => e)
end
end
end Mine

end
section
open PySem PySem.W PyProof.Rows PySem.Calls PySem.Spec
set_option Elab.async false
set_option maxRecDepth 100000
set_option maxHeartbeats 1000000
set_option linter.unusedVariables false
namespace Mine
theorem filled14 : PySem.Challenge.rw_xo0020_01 = PySem.Challenge.rw_xo0020_01 ∧ Mine.hd.heap_39 = Mine.hd.heap_39 := by k_fill; exact ⟨rfl, rfl⟩

def EnOf (e : DictEntry) (p : Str × Value) : Prop := (∃ t, e.key = .str p.1 t) ∧ e.val = p.2
def InD (o : Obj) (fs : List (Str × Value)) : Prop := ∃ es n, o = W.dictOf es n ∧ All2 EnOf es fs
def insPut (k : Str) (v : Value) : List (Str × Value) → List (Str × Value)
  | [] => [(k, v)]
  | p :: r => if p.1 = k then (p.1, v) :: r else p :: insPut k v r
theorem insPut_len (k : Str) (v : Value) : ∀ fs : List (Str × Value), (insPut k v fs).length ≤ fs.length + 1
  | [] => by simp [insPut]
  | p :: r => by
    unfold insPut
    split
    · simp
    · have := insPut_len k v r; simp; omega
theorem InD.getL {es : List DictEntry} {fs : List (Str × Value)} (h : All2 EnOf es fs) (k : Str) : W.getL k es = some (look fs k) := by
  have key : es.any (·.refKey) = false ∧ (es.find? (·.key.isStr k)).map (·.val) = look fs k := by
    induction h with
    | nil => exact ⟨rfl, rfl⟩
    | @cons e p es fs h1 t ih =>
      obtain ⟨⟨tk, hk⟩, hv⟩ := h1
      refine ⟨?_, ?_⟩
      · rw [List.any_cons, ih.1, Bool.or_false]
        unfold DictEntry.refKey
        rw [hk]
      · rw [List.find?_cons, look_cons]
        have : e.key.isStr k = decide (p.1 = k) := by
          rw [hk]; show (p.1 == k) = _
          by_cases q : p.1 = k <;> simp [q]
        rw [this]
        by_cases q : p.1 = k
        · simp [q, hv]
        · simp [q, ih.2]
  unfold W.getL
  cases e : es.find? (·.key.isStr k) with
  | some x => rw [e] at key; simp only [Option.map_some] at key; simp only; rw [← key.2]
  | none => rw [e] at key; simp only [Option.map_none] at key; simp only; rw [key.1, ← key.2]; rfl
theorem InD.putL {hsh : Int} {k : Str} {tk : Tok} {v : Value} {es : List DictEntry} {fs : List (Str × Value)} (h : All2 EnOf es fs) : All2 EnOf (W.putL k hsh (.str k tk) v es) (insPut k v fs) := by
  induction h with
  | nil => exact .cons ⟨⟨tk, rfl⟩, rfl⟩ .nil
  | @cons e p es fs h1 t ih =>
    obtain ⟨⟨t', hk⟩, hv⟩ := h1
    unfold W.putL insPut
    have : e.key.isStr k = decide (p.1 = k) := by
      rw [hk]; show (p.1 == k) = _
      by_cases q : p.1 = k <;> simp [q]
    rw [this]
    by_cases q : p.1 = k
    · simp only [q, decide_true, if_true]
      exact .cons ⟨⟨t', by rw [hk, q]⟩, rfl⟩ t
    · simp only [q, decide_false, if_false]
      exact .cons ⟨⟨t', hk⟩, hv⟩ ih
theorem InD.look {o : Obj} {fs : List (Str × Value)} (h : InD o fs) (k : Str) : lookIn k o = some (look fs k) := by
  obtain ⟨es, n, rfl, a⟩ := h
  exact (lookIn_dict k es n).trans (InD.getL a k)
theorem InD.nil : InD emptyDict [] := ⟨[], 0, rfl, .nil⟩

section
variable {prog : Program} {w : World} {A : Around} {E : Value → Shared → Prop} {C : Cx} {L : Addr} {b : Sn} {m mg mb : Str → Option Value} {mu mu1 mu2 : Mu}
  {h h' : Heap} {gs : Array GenState} {dr : Drawn} {tk : Nat} {os : OsState} {env : Env} {x : Str} {pos : Pos} {v : Value}

theorem a_inst {ia cl dx : Addr} {o : Obj} (hx : h.get? ia = some (instObj cl dx)) (hdx : h.get? dx = some o) : InstAt h ia (instObj cl dx) cl (some o) := ⟨hx, rfl, rfl, hdx⟩

/-- a data attribute of an object -/
theorem a_get {ia cl dx : Addr} {o : Obj} {fs : List (Str × Value)} {name : Str} {expr : Bool} {attr : Option Value} {Q : Value → Shared → Prop} (X : (hd.heap_39 w.params).In h) (hx : h.get? ia = some (instObj cl dx)) (hdx : h.get? dx = some o) (hf : InD o fs)
    (hg : plainGet (hd.heap_39 w.params) cl name = true) (hh : hasDictIn (hd.heap_39 w.params) cl = true) (ha : findIn (hd.heap_39 w.params) (.ref cl) name = some attr) (hn : noGet (hd.heap_39 w.params) attr = true)
    (hl : look fs name = some v) (hv : handedIn v = true) (q : ∀ tk', Q v ⟨h, gs, dr, tk', os⟩) : wpAny (model prog w) A (getAttr (.ref ia) name expr) Q E ⟨h, gs, dr, tk, os⟩ :=
  get_value (s := ⟨h, gs, dr, tk, os⟩) X (a_inst hx hdx) (plainGet_of hg).1 (findObj_own hh ha hn (by rw [hf.look, hl])) hv (q _)

/-- a method of the class -/
theorem a_meth {ia cl dx f : Addr} {o : Obj} {fs : List (Str × Value)} {name : Str} {pl : Sem Bool} {Q : Value × List Value → Shared → Prop} (X : (hd.heap_39 w.params).In h) (hx : h.get? ia = some (instObj cl dx)) (hdx : h.get? dx = some o) (hf : InD o fs)
    (hg : plainGet (hd.heap_39 w.params) cl name = true) (ha : findIn (hd.heap_39 w.params) (.ref cl) name = some (some (.ref f))) (ht : isFn (hd.heap_39 w.params) (.ref f) = true)
    (hl : look fs name = none) (q : Q (.ref f, [.ref ia]) ⟨h, gs, dr, tk, os⟩) : wpAny (model prog w) A (getMethod (.ref ia) name pl) Q E ⟨h, gs, dr, tk, os⟩ :=
  method_fn (s := ⟨h, gs, dr, tk, os⟩) X (a_inst hx hdx) (plainGet_of hg).1 (plainGet_of hg).2 ha (beq_iff_eq.mp ht) (by show (lookIn name o).map _ = _; rw [hf.look, hl]; rfl) q

/-- a callable kept in the object -/
theorem a_own {ia cl dx : Addr} {o : Obj} {fs : List (Str × Value)} {name : Str} {pl : Sem Bool} {Q : Value × List Value → Shared → Prop} (X : (hd.heap_39 w.params).In h) (hx : h.get? ia = some (instObj cl dx)) (hdx : h.get? dx = some o) (hf : InD o fs)
    (hg : plainGet (hd.heap_39 w.params) cl name = true) (hh : hasDictIn (hd.heap_39 w.params) cl = true) (ha : findIn (hd.heap_39 w.params) (.ref cl) name = some none) (hn : noGet (hd.heap_39 w.params) none = true)
    (hl : look fs name = some v) (hv : handedIn v = true) (q : ∀ tk', Q (v, []) ⟨h, gs, dr, tk', os⟩) : wpAny (model prog w) A (getMethod (.ref ia) name pl) Q E ⟨h, gs, dr, tk, os⟩ :=
  method_usual (s := ⟨h, gs, dr, tk, os⟩) X (a_inst hx hdx) (plainGet_of hg).1 (plainGet_of hg).2 ha rfl (a_get X hx hdx hf hg hh ha hn hl hv fun tk' => q tk')

/-- `self.name` as a bound method -/
theorem a_bound {ia cl dx fa : Addr} {o : Obj} {fs : List (Str × Value)} {name : Str} {expr : Bool} {Q : Value → Shared → Prop} (G : Glb w mg mb C.h₀) (S : St C L b m mu h) (hx : h.get? ia = some (instObj cl dx)) (hdx : h.get? dx = some o) (hf : InD o fs)
    (hg : plainGet (hd.heap_39 w.params) cl name = true) (hh : hasDictIn (hd.heap_39 w.params) cl = true) (ha : findIn (hd.heap_39 w.params) (.ref cl) name = some (some (.ref fa))) (hs : specialIn (hd.heap_39 w.params) (.ref fa) "__get__" = some (some (.builtin "function.__get__")))
    (hk : takesIn (hd.heap_39 w.params) (.ref fa) = some false) (ht : typeIn (hd.heap_39 w.params) (.ref fa) = some (.type "function")) (hcp : copiedNames.contains name = false)
    (hl : look fs name = none) (q : ∀ M b' h' tk', b.Le b' → b' M = some (methodObj (.ref fa) (.ref ia)) → St C L b' m mu h' → Q (.ref M) ⟨h', gs, dr, tk', os⟩) : wpAny (model prog w) A (getAttr (.ref ia) name expr) Q E ⟨h, gs, dr, tk, os⟩ := by
  have X := G.at S
  have hfo : findObj (hd.heap_39 w.params) cl (some o) name = some (.bind (.builtin "function.__get__") (.ref fa)) := by
    obtain ⟨cd, hc', hd'⟩ := any_some hh
    unfold findObj
    have ho : W.ownOf cd (some o) name = some none := by unfold W.ownOf; rw [if_pos hd']; exact (hf.look name).trans (by rw [hl])
    rw [hc', Option.bind_some, ha, Option.bind_some]
    simp only [hs, Option.bind_some, ho, hk, hcp, Bool.false_and, Bool.false_eq_true, if_false]
  refine get_bind (s := ⟨h, gs, dr, tk, os⟩) X (a_inst hx hdx) (plainGet_of hg).1 hfo (plainGet_of hg).2 (wpAny_call (fn_get (s := ⟨h, gs, dr, tk + 1, os⟩) X ht ?_))
  have f := S.fresh (gone_self h)
  obtain ⟨S', l⟩ := (S.push (methodObj (.ref fa) (.ref ia))).freeze0 f.2.2.2.1
  exact handed_on rfl (q _ _ _ _ l (Sn.put_self ..) S')

/-- `self.name = v` -/
theorem a_set {ia cl dx : Addr} {o : Obj} {fs : List (Str × Value)} {name : Str} {Q : Unit → Shared → Prop} (G : Glb w mg mb C.h₀) (S : St C L b m (mu1 ++ (dx, o) :: mu2) h) (hx : h.get? ia = some (instObj cl dx)) (hf : InD o fs) (hz : fs.length ≤ 100)
    (hs : findIn (hd.heap_39 w.params) (.ref cl) "__setattr__" = some (some (.builtin "object.__setattr__"))) (hp : plainOver (hd.heap_39 w.params) cl = true) (ht : takerIn (hd.heap_39 w.params) cl name = some none) (hh : hasDictIn (hd.heap_39 w.params) cl = true)
    (q : ∀ o' h' tk', InD o' (insPut name v fs) → St C L b m (mu1 ++ (dx, o') :: mu2) h' → Q () ⟨h', gs, dr, tk', os⟩) :
    wpAny (model prog w) A (setAttr (.ref ia) name v) Q E ⟨h, gs, dr, tk, os⟩ := by
  have X := G.at S
  obtain ⟨es, n, rfl, al⟩ := hf
  have D := S.muin (dx, W.dictOf es n) (by simp)
  have I := a_inst (o := W.dictOf es n) hx D
  have hl : (lookIn name (W.dictOf es n)).isSome = true := by rw [lookIn_dict, InD.getL al]; rfl
  refine set_plain (s := ⟨h, gs, dr, tk, os⟩) X I hs (osa_open (s := ⟨h, gs, dr, tk + 1, os⟩) X I hp ht fun bb => ?_)
  obtain ⟨cd, hc, hd'⟩ := any_some hh
  refine wpAny_bind (wpAny_pure (wpAny_bind (wpAny_bind (wpAny_loadPart hx (wpAny_bind ((looks_clsIn X hc).here ?_))))))
  rw [hd']
  refine wpAny_pure (a := some dx) (wpAny_bind (wpAny_pure (wpAny_bind ?_)))
  unfold nsSet
  refine wpAny_bind (wpAny_bind (wpAny_askSetting (wpAny_pure (wpAny_bind (wpAny_mkText (wpAny_bind (wpAny_loadPart D ?_)))))))
  dsimp only
  have c : (!es.toArray.any (·.key.isStr name) && es.toArray.any (·.refKey)) = false := by
    have hl2 : (W.getL name es).isSome = true := hl
    unfold W.getL at hl2
    rw [← Array.any_toList, ← Array.any_toList]
    split at hl2
    · rename_i en he
      rw [show es.toArray.toList = es from rfl, List.any_eq_true.mpr ⟨en, List.mem_of_find?_eq_some he, List.find?_some he⟩]; rfl
    · split at hl2
      · cases hl2
      · rename_i z; rw [Bool.not_eq_true] at z; rw [show es.toArray.toList = es from rfl, z, Bool.and_false]
  rw [aRefKeyMayBeTheName_at, c]
  refine wpAny_updatePart D ?_
  generalize hash : (if name.cps.isEmpty = true then (0 : Int) else reduceHash (({ program := (model prog w).prog, params := (model prog w).w.params : Setting }).params.strHash name.cps)) = hsh
  have e1 : Obj.putName name hsh (.str name (tk + 1)) v (W.dictOf es n) = W.dictOf (W.putL name hsh (.str name (tk + 1)) v es) (putN name es n) := putName_dict ..
  have al' := InD.putL (hsh := hsh) (k := name) (tk := tk + 1) (v := v) al
  have D' : (h.update dx (Obj.putName name hsh (.str name (tk + 1)) v)).get? dx = some (W.dictOf (W.putL name hsh (.str name (tk + 1)) v es) (putN name es n)) := by
    have := Heap.get?_update_self (Obj.putName name hsh (.str name (tk + 1)) v) D (by rw [e1]; rfl)
    rw [e1] at this; exact this
  have S' := S.mut D' fun a o n e => (Heap.SameBut.update ..).extBut a o n e
  have hlen := al'.length
  have hlen2 := insPut_len name v fs
  refine wpAny_bind (wpAny_lookBehind (s := ⟨h.update dx (Obj.putName name hsh (.str name (tk + 1)) v), gs, dr, tk + 1 + 1, os⟩) D' (pastItsLine_dict (by rw [List.size_toArray, sizeLine_eq]; omega)) ?_)
  exact wpAny_pure (q _ _ _ ⟨_, _, rfl, al'⟩ S')
end
end Mine

end
section
open PySem PySem.W PyProof.Rows PySem.Calls PySem.Spec
set_option Elab.async false
set_option maxRecDepth 100000
set_option maxHeartbeats 1000000
set_option linter.unusedVariables false
namespace Mine
abbrev rOf (Q E : Value → Shared → Prop) : Result → Shared → Prop := fun r s' => match r with | .ok (.ret v) => Q v s' | .ok _ => False | .error e => E e s'
section
variable {prog : Program} {w : World} {A : Around} {E : Value → Shared → Prop} {C : Cx} {L : Addr} {b : Sn} {m mg mb : Str → Option Value} {mu mu1 mu2 : Mu}
  {h h' : Heap} {gs : Array GenState} {dr : Drawn} {tk : Nat} {os : OsState} {env : Env} {x : Str} {pos : Pos} {v : Value}

theorem own_code {mv mr : Mu} {Q : Value → Shared → Prop} {name qual : Str} {params : Arguments} {body : List Stmt} {scope : Scope} {dV kV doc pm cdv ct oc : Value} {an od : Option Addr} {osl : Array (Option Value)}
    {f : Addr} {args : List Value} {kw : List (Str × Value)} {binds : List (Str × Value)}
    (G : Glb w mg mb C.h₀) (S : St C L b m (mv ++ mr) h) (hroom : A.depth < recursionLimit)
    (ho : (hd.heap_39 w.params).lookup f = some ⟨oc, od, .func (fnOf name qual params body scope dV kV doc pm an cdv ct), osl⟩) (hcd : codeIn (hd.heap_39 w.params) cdv qual = true)
    (hbind : BindsTo ⟨h, gs, dr, tk, os⟩ (fnOf name qual params body scope dV kV doc pm an cdv ct) ⟨args, kw⟩ binds)
    (q : ∀ L' h₁ tk₁, St ⟨C.h₀, b, h, addrs mv⟩ L' b (fun y => binds.reverse.lookup y) mv h₁ →
      wpAny (model prog w) (A.deeper (envOf qual scope L' f cdv)) (execs body (envOf qual scope L' f cdv))
        (fun fl s' => Back C L b m mr ⟨C.h₀, b, h, addrs mv⟩ L' gs dr os Q (retOf fl) s') NE ⟨h₁, gs, dr, tk₁, os⟩)
    (hloc : (binds.all fun x => decide (scope.names.lookup x.1 = some .local)) = true := by rfl)
    (hcell : ∀ x ∈ scope.names, x.2 ≠ .cell := by decide) (hco : scope.isCoroutine = false := by rfl) (hgen : scope.isGenerator = false := by rfl) (hk : scope.kind = .function := by rfl) :
    codeAny (model prog w) A (.call (.ref f) ⟨args, kw⟩) (rOf Q E) ⟨h, gs, dr, tk, os⟩ := by
  obtain ⟨p, loose, mean, T⟩ := G.T
  have X := G.at S
  refine codeAny_call_def (fd := fnOf name qual params body scope dV kV doc pm an cdv ct) (body := body) (binds := binds) hroom (X _ _ ho) rfl (T.nolimit.keeps S.base') (codeRec_of X hcd) rfl hbind hcell (locs hloc) (fun h₁ hns hk₁ => ?_) hco hgen hk
  refine wpAny_mono (q _ h₁ _ (S.enter (gone_self h) hns hk₁)) (fun fl s' hb => ?_) (fun _ _ e => e.elim)
  obtain ⟨h', tk', b', m', mv', rfl, S', k⟩ := hb
  exact k (S.back S')

/-- an object of a class of the text is made -/
theorem own_make {mv mr : Mu} {Q : Value → Shared → Prop} {name qual : Str} {params : Arguments} {body : List Stmt} {scope : Scope} {dV kV doc pm cdv ct oc : Value} {an od : Option Addr} {osl : Array (Option Value)}
    {cl f : Addr} {args : List Value} {binds : Addr → List (Str × Value)}
    (G : Glb w mg mb C.h₀) (S : St C L b m (mv ++ mr) h) (hroom : A.depth + 5 < recursionLimit)
    (hm : makesIn (hd.heap_39 w.params) cl = true) (hi : findIn (hd.heap_39 w.params) (.ref cl) "__init__" = some (some (.ref f))) (hf : isFn (hd.heap_39 w.params) (.ref f) = true)
    (ho : (hd.heap_39 w.params).lookup f = some ⟨oc, od, .func (fnOf name qual params body scope dV kV doc pm an cdv ct), osl⟩) (hcd : codeIn (hd.heap_39 w.params) cdv qual = true)
    (hbind : ∀ x s, BindsTo s (fnOf name qual params body scope dV kV doc pm an cdv ct) ⟨.ref x :: args, []⟩ (binds x))
    (q : ∀ x dx b' hh L' h₁ tk₁ A', A'.depth ≤ A.depth + 4 → b.Le b' → b' x = some (instObj cl dx) → dx ∉ C.ps → (∀ a, hh.get? a = none → a ∉ C.ps) → St ⟨C.h₀, b', hh, addrs ((dx, emptyDict) :: mv)⟩ L' b' (fun y => (binds x).reverse.lookup y) ((dx, emptyDict) :: mv) h₁ →
      wpAny (model prog w) A' (execs body (envOf qual scope L' f cdv))
        (fun fl s' => Back C L b' m mr ⟨C.h₀, b', hh, addrs ((dx, emptyDict) :: mv)⟩ L' gs dr os (fun v s' => v = .none ∧ Q (.ref x) s') (retOf fl) s') NE ⟨h₁, gs, dr, tk₁, os⟩)
    (hloc : ∀ x, ((binds x).all fun x => decide (scope.names.lookup x.1 = some .local)) = true := by intro _; rfl)
    (hcell : ∀ x ∈ scope.names, x.2 ≠ .cell := by decide) (hco : scope.isCoroutine = false := by rfl) (hgen : scope.isGenerator = false := by rfl) (hk : scope.kind = .function := by rfl) :
    wpAny (model prog w) A (call (.ref cl) args) Q E ⟨h, gs, dr, tk, os⟩ := by
  have X := G.at S
  have f1 := S.fresh (gone_self h)
  have S₁ := S.push emptyDict
  have f2 := S₁.fresh (gone_self _)
  obtain ⟨S₂, l₂⟩ := (S₁.push (instObj cl h.objs.size)).freeze0 f2.2.2.2.1
  have hsz : (h.push emptyDict).objs.size = h.objs.size + 1 := Heap.size_push ..
  refine wpAny_call (make_core (makes_of X hm) (looks_findIn X hi) (fun self => bind_fn X self (beq_iff_eq.mp hf)) (.inl rfl) ?_)
  rw [hsz] at S₂ l₂
  refine codeAny_mono (own_code (Q := fun v s' => v = .none ∧ Q (.ref (h.objs.size + 1)) s') (E := fun _ _ => False) (mv := (h.objs.size, emptyDict) :: mv) (mr := mr) G S₂ (by show A.depth + (Code.builtin "type.__call__" ⟨.ref cl :: args, []⟩).weight < recursionLimit; exact Nat.lt_of_le_of_lt (Nat.add_le_add_left (show (Code.builtin "type.__call__" ⟨.ref cl :: args, []⟩).weight ≤ 3 from Nat.le_of_ble_eq_true rfl) _) (by omega)) ho hcd (hbind _ _) (fun L' h₁ tk₁ S₃ => ?_) (hloc _) hcell hco hgen hk) fun r s' z => ?_
  · refine q (h.objs.size + 1) h.objs.size _ _ L' h₁ tk₁ _ ?_ l₂ (Sn.put_self ..) f1.2.2.2.1 (fun a ha => (S₂.fresh ha).2.2.2.1) S₃
    show A.depth + (Code.builtin "type.__call__" ⟨.ref cl :: args, []⟩).weight + 1 ≤ _
    exact Nat.add_le_add_right (Nat.add_le_add_left (show (Code.builtin "type.__call__" ⟨.ref cl :: args, []⟩).weight ≤ 3 from Nat.le_of_ble_eq_true rfl) _) 1
  · rcases r with e | (v | _ | _ | _) <;> first | exact z.elim | exact z

/-- a call of a nested def that stands still -/
theorem own_clos {mv mr : Mu} {Q : Value → Shared → Prop} {name qual : Str} {params : Arguments} {body : List Stmt} {scope : Scope} {cl : List (Str × Addr)} {doc pm ctv : Value} {c' f : Addr}
    {args : List Value} {binds : List (Str × Value)}
    (G : Glb w mg mb C.h₀) (S : St C L b m (mv ++ mr) h) (hroom : A.depth < recursionLimit) (ho : b f = some (fnMade name qual params body scope cl doc pm c' ctv)) (hcd : ∃ oc vs t, b c' = some oc ∧ oc.data = .fields vs ∧ vs[1]? = some (.str qual t))
    (hbind : BindsTo ⟨h, gs, dr, tk, os⟩ (fnX name qual params body scope cl .none .none doc pm none (.ref c') ctv) ⟨args, []⟩ binds)
    (q : ∀ L' h₁ tk₁, St ⟨C.h₀, b, h, addrs mv⟩ L' b (fun y => binds.reverse.lookup y) mv h₁ →
      wpAny (model prog w) (A.deeper (envX qual scope L' f (.ref c') cl)) (execs body (envX qual scope L' f (.ref c') cl))
        (fun fl s' => Back C L b m mr ⟨C.h₀, b, h, addrs mv⟩ L' gs dr os Q (retOf fl) s') NE ⟨h₁, gs, dr, tk₁, os⟩)
    (hloc : (binds.all fun x => decide (scope.names.lookup x.1 = some .local)) = true := by rfl)
    (hcell : ∀ x ∈ scope.names, x.2 ≠ .cell := by decide) (hco : scope.isCoroutine = false := by rfl) (hgen : scope.isGenerator = false := by rfl) (hk : scope.kind = .function := by rfl) :
    wpAny (model prog w) A (call (.ref f) args) Q E ⟨h, gs, dr, tk, os⟩ := by
  obtain ⟨p, loose, mean, T⟩ := G.T
  obtain ⟨oc, vs, t, hoc, hdt, hvs⟩ := hcd
  have hbd := hbind
  refine wpAny_call (codeAny_call_def (fd := fnX name qual params body scope cl .none .none doc pm none (.ref c') ctv) (body := body) (binds := binds) hroom (S.bin _ _ ho) rfl (T.nolimit.keeps S.base') ⟨c', oc, vs, t, rfl, S.bin _ _ hoc, hdt, hvs⟩ rfl hbd hcell (locs hloc) (fun h₁ hns hk₁ => ?_) hco hgen hk)
  refine wpAny_mono (q _ h₁ _ (S.enter (gone_self h) hns hk₁)) (fun fl s' hb => ?_) (fun _ _ e => e.elim)
  obtain ⟨h', tk', b', m', mv', rfl, S', k⟩ := hb
  exact k (S.back S')

/-- a nested def -/
theorem nest_def {Q : Flow → Shared → Prop} {name : Str} {params : Arguments} {body : List Stmt} {scope : Scope} {c P : Addr} {ps : Array Value} {clos : List (Str × Addr)}
    (G : Glb w mg mb C.h₀) (H : CodeHd C.h₀ c P) (S : St C env.locals b m (mu1 ++ (P, tabObj ps) :: mu2) h) (hcl : closureFor scope env = pure clos) (hge : env.globals = mainGlobals) (hcode : env.code = .ref c) (ht : TriplesOk ps.toList) (hnf : codeAmong pos ps.toList = none)
    (q : ∀ f c' oc vs t ctv doc pm b' h' tk' ps', b.Le b' → b' f = some (fnMade name (qualnameIn env name name) params body scope clos doc pm c' ctv) → b' c' = some oc → oc.data = .fields vs → vs[1]? = some (.str (qualnameIn env name name) t) → St C env.locals b' (upd m name (.ref f)) (mu1 ++ (P, tabObj ps') :: mu2) h' → Q .next ⟨h', gs, dr, tk', os⟩)
    (hd0 : params.defaults = [] := by rfl) (hk0 : params.kw_defaults = [] := by rfl) (ha : annTrees params none env = [] := by rfl) (hx : env.kindOf name = some .local := by rfl)
    (hp : (env.scope.kind == .class || (env.scope.kind == .module && env.locals != env.globals)) = false := by rfl) :
    wpAny (model prog w) A (exec (.FunctionDef name params body [] none [] scope none name pos) env) Q E ⟨h, gs, dr, tk, os⟩ := by
  obtain ⟨p, loose, mean, T⟩ := G.T
  have hmP : (P, tabObj ps) ∈ mu1 ++ (P, tabObj ps) :: mu2 := by simp
  have hP := S.muin _ hmP
  simp only at hP
  have hbP0 := S.bmu _ hmP
  simp only at hbP0
  have hgs := T.g.keeps S.base'
  obtain ⟨bm, ob, b1, b2, b3, b4, b5, b6⟩ := T.bmain
  have hgP : mainGlobals ≠ P := fun q => by
    obtain ⟨o, es, ep, e, hd, _⟩ := hgs
    rw [q, hP] at e; cases e; cases hd
  have hbP : bm ≠ P := fun q => by
    have e := S.base' _ _ b3
    rw [q, hP] at e; cases e; cases b4
  have hbG : bm ≠ mainGlobals := fun q => by
    obtain ⟨o, es, ep, e, hd, _⟩ := T.g
    rw [q, e] at b3; cases b3; rw [hd] at b6; cases b6
  refine nestDef_K hd0 hk0 ha ?_
  refine makeFunction_K (s := ⟨h, gs, dr, tk, os⟩) (mg := mg) hcl hge hgs hcode (H.keeps S.base') hP ht hnf hgP ⟨bm, ob, b1, b2, hbG, hbP, S.base' _ _ b3, b4, b5, b6⟩ fun c' ctv doc h' tk' hx' hge' hlt hrec htb => ?_
  obtain ⟨c₂, oc, vs, t, e2, hoc, hdt, hv⟩ := hrec
  cases e2
  -- the table turned, the code record new
  have hc'n : h.get? c' = none := gone hge'
  have S₁ : St C env.locals b m (mu1 ++ (P, tabObj (ps ++ #[rawInt pos.line, rawInt pos.col, .ref c'])) :: mu2) h' := S.mut htb fun a o n e => hx' a o n e
  have frc : c' ∉ C.ps := (S.fresh hc'n).2.2.2.1
  have S₂ : St C env.locals b m ((c', oc) :: (mu1 ++ (P, tabObj (ps ++ #[rawInt pos.line, rawInt pos.col, .ref c'])) :: mu2)) h' := by
    have f := S.fresh hc'n
    have hcmu : c' ∉ addrs (mu1 ++ (P, tabObj (ps ++ #[rawInt pos.line, rawInt pos.col, .ref c'])) :: mu2) := by
      have e : addrs (mu1 ++ (P, tabObj (ps ++ #[rawInt pos.line, rawInt pos.col, .ref c'])) :: mu2) = addrs (mu1 ++ (P, tabObj ps) :: mu2) := by simp
      rw [e]; exact f.2.2.1
    exact { S₁ with
      bmu := fun p hp => by rcases List.mem_cons.mp hp with rfl | hp; exact f.2.1; exact S₁.bmu p hp
      muin := fun p hp => by rcases List.mem_cons.mp hp with rfl | hp; exact hoc; exact S₁.muin p hp
      muL := fun p hp => by rcases List.mem_cons.mp hp with rfl | hp; exact f.1; exact S₁.muL p hp
      mund := List.nodup_cons.mpr ⟨hcmu, S₁.mund⟩
      mufr := fun p hp => by rcases List.mem_cons.mp hp with rfl | hp; exact .inr f.2.2.2.2; exact S₁.mufr p hp
      psin := fun a ha => List.mem_cons_of_mem _ (S₁.psin a ha) }
  obtain ⟨S₃, l₃⟩ := S₂.freeze0 frc
  have f4 := S₃.fresh (gone_self h')
  obtain ⟨S₄, l₄⟩ := (S₃.push (fnMade name (qualnameIn env name name) params body scope clos doc ((mg "__name__").getD .none) c' ctv)).freeze0 f4.2.2.2.1
  refine stL S₄ (fun h₅ tk₅ S₅ => ?_) hx hp
  exact q h'.objs.size c' oc vs t ctv doc _ _ h₅ tk₅ _ (l₃.trans l₄) (Sn.put_self ..) (l₄ _ _ (Sn.put_self ..)) hdt hv S₅
end
end Mine

end
section
open PySem PySem.W PyProof.Rows PySem.Calls PySem.Spec
set_option Elab.async false
set_option maxRecDepth 100000
set_option maxHeartbeats 1000000
set_option linter.unusedVariables false
namespace Mine
theorem ci_slot_next : Slot "callable_iterator" "__next__" "callable_iterator.__next__" :=
  .of (owner := "callable_iterator") (n := "__next__") (by rw [typeLookup_type, builtinLookup_eq_fast]; kernel_rfl) (by decide +kernel) (by decide +kernel) (by decide +kernel)
    (by first | exact .inl (by decide +kernel) | exact .inr (by decide +kernel)) (by rw [isSubtype_type]; kernel_rfl)
theorem ci_slot_iter : Slot "callable_iterator" "__iter__" "callable_iterator.__iter__" :=
  .of (owner := "callable_iterator") (n := "__iter__") (by rw [typeLookup_type, builtinLookup_eq_fast]; kernel_rfl) (by decide +kernel) (by decide +kernel) (by decide +kernel)
    (by first | exact .inl (by decide +kernel) | exact .inr (by decide +kernel)) (by rw [isSubtype_type]; kernel_rfl)
theorem ci_entry_next : entryFor table "callable_iterator.__next__" = some Builtin.«callable_iterator.__next__» := entryFor_of_tree (by kernel_rfl)
theorem ci_entry_iter : entryFor table "callable_iterator.__iter__" = some Builtin.«dict_keyiterator.__iter__» := entryFor_alias (id' := "dict_keyiterator.__iter__") (by rw [fastTable_eq_tree]; kernel_rfl) rfl (by decide +kernel) (by rw [fastTable_eq_tree]; kernel_rfl)
theorem ci_args_next (a : Value) : argsOk "callable_iterator.__next__" ⟨[a], []⟩ := by unfold argsOk; kernel_rfl
theorem ci_args_iter (a : Value) : argsOk "callable_iterator.__iter__" ⟨[a], []⟩ := by unfold argsOk; kernel_rfl
theorem it_args2 (a b : Value) : argsOk "iter" ⟨[a, b], []⟩ := by unfold argsOk; kernel_rfl
abbrev ciO (x y z : Value) : Obj := { cls := .type "callable_iterator", data := .fields #[x, y, z] }

theorem wpAny_callBorrowed {M : Model} {A : Around} {E : Value → Shared → Prop} {s : Shared} {f : Value} {pos : List Value} {Q : Value → Shared → Prop} (hc : codeAny M A (.call f ⟨pos, []⟩) (rOf Q E) s) : wpAny M A (callBorrowed f pos) Q E s := fun Γ p hΓ => by
  unfold callBorrowed
  rw [Sem.wp_call]
  refine wpCode_mono ?_ (hc _ p rfl (hΓ.enter _ none p (by intro x; cases x)))
  rintro (e | (v | _ | _ | _)) s' hr
  all_goals first | exact hr.elim | simpa using hr

section
variable {prog : Program} {w : World} {A : Around} {E : Value → Shared → Prop} {C : Cx} {L : Addr} {b : Sn} {m mg mb : Str → Option Value} {mu mu1 mu2 : Mu}
  {h h' : Heap} {gs : Array GenState} {dr : Drawn} {tk : Nat} {os : OsState} {env : Env} {x : Str} {pos : Pos} {v : Value}

theorem ci_make {Q : Value → Shared → Prop} {M : Addr} {f self : Value} {t : Tok} (S : St C L b m mu h) (hM : b M = some (methodObj f self))
    (q : ∀ I h', I ∉ C.ps → St C L b m ((I, ciO (.ref M) (.str "" t) (.bool false)) :: mu) h' → Q (.ref I) ⟨h', gs, dr, tk, os⟩) :
    wpAny (model prog w) A (call (.builtin "iter") [.ref M, .str "" t]) Q E ⟨h, gs, dr, tk, os⟩ := by
  refine call_function_entry (by decide +kernel) (by decide +kernel) kdk_entry_iter (it_args2 _ _) ?_
  unfold Builtin.«iter»
  refine wpAny_bind (m := someArgs "iter" 1 2 _) (wpAny_of_eq (a := [Value.ref M, .str "" t]) (by first | rfl | kernel_rfl!) ?_)
  have hT : Shared.TypeIs ⟨h, gs, dr, tk, os⟩ (.ref M) "method" := ⟨_, S.bin _ _ hM, rfl⟩
  refine wpAny_bind (wpAny_specialOf hT (r := some (.builtin "method.__call__")) (by rw [typeLookup_type, builtinLookup_eq_fast]; kernel_rfl) ?_)
  show wpAny _ _ (rule "iter.sentinel" >>= _) _ _ _
  refine wpAny_bind (wpAny_rule (wpAny_bind ?_))
  refine wpAny_newObj_type (wpAny_pure ⟨_, rfl, q _ _ (S.fresh (gone_self h)).2.2.2.1 (S.push _)⟩)

theorem ci_iter {Q : Value → Shared → Prop} {I : Addr} {x y z : Value} (S : St C L b m mu h) (hI : (I, ciO x y z) ∈ mu) (q : Q (.ref I) ⟨h, gs, dr, tk, os⟩) :
    wpAny (model prog w) A (pyIter (.ref I)) Q E ⟨h, gs, dr, tk, os⟩ := by
  have hT : Shared.TypeIs ⟨h, gs, dr, tk, os⟩ (.ref I) "callable_iterator" := ⟨_, S.muin _ hI, rfl⟩
  refine wpAny_pyIter_slot hT ci_slot_iter (wpAny_call_entry ci_slot_iter hT ci_entry_iter ?_ (ci_args_iter _))
  show wpAny _ _ (ret (.ref I)) _ _ _
  exact wpAny_pure ⟨_, rfl, "callable_iterator", _, hT, ci_slot_next.lookup, q⟩

/-- StopIteration out of __next__ -/
theorem ci_stop {α : Type} {Q : Option Value → Shared → Prop} {tk' : Nat} {h' : Heap} {E' : Value → Shared → Prop} {Ai : Around} (hh : Ai.handled = none)
    (q : ∀ h'', (∀ a o, h'.get? a = some o → h''.get? a = some o) → Q none ⟨h'', gs, dr, tk', os⟩) :
    wpAny (model prog w) Ai (Builtin.SmallTypes.stopIteration : Sem α) (fun _ _ => False) (fun e s' => wpAny (model prog w) A (do if ← isInstance e (.type "StopIteration") then pure none else throw e : Sem (Option Value)) Q E' s') ⟨h', gs, dr, tk', os⟩ := by
  unfold Builtin.SmallTypes.stopIteration
  refine wpAny_bind ?_
  simp only [newExc, newTuple]
  refine wpAny_bind (wpAny_newObj_type ?_ (by size_fits))
  refine wpAny_bind (m := firstArgMember _ _) (wpAny_of_eq (a := Value.none) (by first | rfl | (simp only [firstArgMember]; rfl)) ?_)
  refine wpAny_newObj_type ?_ (by size_fits)
  simp only [raiseNew]
  refine wpAny_bind (wpAny_handled ?_)
  rw [hh]
  refine wpAny_bind (wpAny_pure (wpAny_throw ?_))
  refine wpAny_bind (wpAny_isInstance (T := "StopIteration") (b := true) ⟨_, Heap.get?_push_size _ rfl, rfl⟩ isSubtype_stop ?_)
  exact wpAny_pure (q _ fun a o e => Heap.get?_push_of_some _ (Heap.get?_push_of_some _ e))

theorem lets_go {M f : Addr} {self : Value} {oc od fd sl} {busy : Code → Bool} {Q : Unit → Shared → Prop} (hM : h.get? M = some (methodObj (.ref f) self)) (hf : h.get? f = some ⟨oc, od, .func fd, sl⟩) (q : Q () ⟨h, gs, dr, tk, os⟩) :
    wpAny (model prog w) A (slotLetsGo "callable_iterator.__next__" (.ref M) busy) Q E ⟨h, gs, dr, tk, os⟩ := by
  unfold slotLetsGo borrowsExactly
  refine wpAny_bind (wpAny_bind (wpAny_load (s := ⟨h, gs, dr, tk, os⟩) hM ?_))
  show wpAny _ _ (load f >>= _) _ _ _
  refine wpAny_bind (wpAny_load (s := ⟨h, gs, dr, tk, os⟩) hf ?_)
  exact wpAny_pure (wpAny_pure q)

theorem ci_live {Q : Option Value → Shared → Prop} {I M f ia : Addr} {t : Tok} (hh : A.handled = none) (S : St C L b m (mu1 ++ (I, ciO (.ref M) (.str "" t) (.bool false)) :: mu2) h) (hM : b M = some (methodObj (.ref f) (.ref ia)))
    (hf : ∃ oc od fd sl, C.h₀.get? f = some ⟨oc, od, .func fd, sl⟩)
    (q : codeAny (model prog w) A.in1 (.call (.ref f) ⟨[.ref ia], []⟩) (rOf (fun r s' => ∃ y u h₁ tk₁ b₁ mu1' mu2', r = .str y u ∧ s' = ⟨h₁, gs, dr, tk₁, os⟩ ∧ b.Le b₁ ∧ St C L b₁ m (mu1' ++ (I, ciO (.ref M) (.str "" t) (.bool false)) :: mu2') h₁ ∧
      (y ≠ "" → Q (some (.str y u)) ⟨h₁, gs, dr, tk₁, os⟩) ∧ (y = "" → ∀ h₂, St C L b₁ m (mu1' ++ (I, ciO .none .none (.bool true)) :: mu2') h₂ → Q none ⟨h₂, gs, dr, tk₁, os⟩)) NE) ⟨h, gs, dr, tk, os⟩) :
    wpAny (model prog w) A (pyNext (.ref I)) Q E ⟨h, gs, dr, tk, os⟩ := by
  have hI := S.muin (I, ciO (.ref M) (.str "" t) (.bool false)) (by simp)
  simp only at hI
  have hMh := S.bin _ _ hM
  obtain ⟨oc, od, fd, sl, hf0⟩ := hf
  have hf := S.base' _ _ hf0
  have hT : Shared.TypeIs ⟨h, gs, dr, tk, os⟩ (.ref I) "callable_iterator" := ⟨_, hI, rfl⟩
  unfold pyNext
  refine wpAny_bind (wpAny_attempt (wpAny_callSpecial?_slot (name := Str.ofString "__next__") hT ci_slot_next (wpAny_call_entry ci_slot_next hT ci_entry_next ?_ (ci_args_next _))))
  unfold Builtin.«callable_iterator.__next__»
  refine wpAny_bind (m := slotArgs "__next__" 0 _) (wpAny_pure ?_)
  refine wpAny_bind (wpAny_field (s := ⟨h, gs, dr, tk, os⟩) hI rfl (x := .bool false) rfl ?_)
  show wpAny _ _ (field (.ref I) 0 >>= _) _ _ _
  refine wpAny_bind (wpAny_field (s := ⟨h, gs, dr, tk, os⟩) hI rfl (x := .ref M) rfl ?_)
  refine wpAny_bind (wpAny_attempt ?_)
  unfold callOutOfASlot borrowsExactly
  refine wpAny_bind (wpAny_bind (wpAny_load (s := ⟨h, gs, dr, tk, os⟩) hMh ?_))
  show wpAny _ _ (load f >>= _) _ _ _
  refine wpAny_bind (wpAny_load (s := ⟨h, gs, dr, tk, os⟩) hf ?_)
  refine wpAny_pure ?_
  show wpAny _ _ (callBorrowed (.ref M) []) _ _ _
  refine wpAny_callBorrowed (method_call (s := ⟨h, gs, dr, tk, os⟩) hMh (codeAny_mono q fun r s' z => ?_))
  rcases r with e | (v | _ | _ | _) <;> first | exact z.elim | skip
  obtain ⟨y, u, h₁, tk₁, b₁, mu1', mu2', rfl, rfl, l₁, S₁, q1, q2⟩ := z
  have hI₁ := S₁.muin (I, ciO (.ref M) (.str "" t) (.bool false)) (by simp)
  simp only at hI₁
  refine wpAny_bind (wpAny_field (s := ⟨h₁, gs, dr, tk₁, os⟩) hI₁ rfl (x := .bool false) rfl ?_)
  refine wpAny_bind (wpAny_field (s := ⟨h₁, gs, dr, tk₁, os⟩) hI₁ rfl (x := .str "" t) rfl ?_)
  refine wpAny_bind (wpAny_holding (eqBool_str ?_))
  by_cases hy : y = ""
  · subst hy
    show wpAny _ _ (rule "callable_iterator.__next__.sentinel" >>= _) _ _ _
    refine wpAny_bind (wpAny_rule ?_)
    have S₂ : St C L b₁ m (mu1' ++ (I, ciO .none .none (.bool true)) :: mu2') (((h₁.update I (Obj.mapFields (·.setIfInBounds 0 .none))).update I (Obj.mapFields (·.setIfInBounds 1 .none))).update I (Obj.mapFields (·.setIfInBounds 2 (.bool true)))) := by
      have S₃ : St C L b₁ m (mu1' ++ (I, ciO .none (.str "" t) (.bool false)) :: mu2') (h₁.update I (Obj.mapFields (·.setIfInBounds 0 .none))) := S₁.mut (Heap.get?_update_self _ hI₁ rfl) fun a o n e => (Heap.SameBut.update ..).extBut a o n e
      have hI₃ := S₃.muin (I, ciO .none (.str "" t) (.bool false)) (by simp)
      have S₄ : St C L b₁ m (mu1' ++ (I, ciO .none .none (.bool false)) :: mu2') ((h₁.update I (Obj.mapFields (·.setIfInBounds 0 .none))).update I (Obj.mapFields (·.setIfInBounds 1 .none))) := S₃.mut (Heap.get?_update_self _ hI₃ rfl) fun a o n e => (Heap.SameBut.update ..).extBut a o n e
      have hI₄ := S₄.muin (I, ciO .none .none (.bool false)) (by simp)
      exact S₄.mut (Heap.get?_update_self _ hI₄ rfl) fun a o n e => (Heap.SameBut.update ..).extBut a o n e
    refine wpAny_bind ?_
    refine wpAny_bind (wpAny_field (s := ⟨h₁, gs, dr, tk₁, os⟩) hI₁ rfl (x := .ref M) rfl ?_)
    refine wpAny_bind (lets_go (S₁.bin _ _ (l₁ _ _ hM)) (S₁.base' _ _ hf0) ?_)
    refine wpAny_bind (wpAny_setField (s := ⟨h₁, gs, dr, tk₁, os⟩) hI₁ rfl (by simp) ?_)
    have hI₃ : (h₁.update I (Obj.mapFields (·.setIfInBounds 0 .none))).get? I = some (ciO .none (.str "" t) (.bool false)) := Heap.get?_update_self _ hI₁ rfl
    refine wpAny_bind (wpAny_setField (s := ⟨h₁.update I (Obj.mapFields (·.setIfInBounds 0 .none)), gs, dr, tk₁, os⟩) hI₃ rfl (by simp) ?_)
    have hI₄ : ((h₁.update I (Obj.mapFields (·.setIfInBounds 0 .none))).update I (Obj.mapFields (·.setIfInBounds 1 .none))).get? I = some (ciO .none .none (.bool false)) := Heap.get?_update_self _ hI₃ rfl
    refine wpAny_setField (s := ⟨(h₁.update I (Obj.mapFields (·.setIfInBounds 0 .none))).update I (Obj.mapFields (·.setIfInBounds 1 .none)), gs, dr, tk₁, os⟩) hI₄ rfl (by simp) ?_
    exact wpAny_mono (ci_stop (A := A) (Ai := A.in1) (E' := E) (Q := Q) hh fun h'' k => q2 rfl h'' (S₂.stay k)) (fun _ _ f => f.elim) fun _ _ z => z
  · have e : ((("" : Str)) == y) = false := beq_eq_false_iff_ne.mpr fun e => hy e.symm
    rw [e]
    exact wpAny_bind (wpAny_pure (wpAny_pure ⟨_, rfl, wpAny_pure (q1 hy)⟩))

/-- an iterator at its end -/
theorem ci_dead {Q : Option Value → Shared → Prop} {I : Addr} (hh : A.handled = none) (S : St C L b m mu h) (hI : (I, ciO .none .none (.bool true)) ∈ mu)
    (q : ∀ h₂, St C L b m mu h₂ → Q none ⟨h₂, gs, dr, tk, os⟩) : wpAny (model prog w) A (pyNext (.ref I)) Q E ⟨h, gs, dr, tk, os⟩ := by
  have hI := S.muin _ hI
  simp only at hI
  have hT : Shared.TypeIs ⟨h, gs, dr, tk, os⟩ (.ref I) "callable_iterator" := ⟨_, hI, rfl⟩
  unfold pyNext
  refine wpAny_bind (wpAny_attempt (wpAny_callSpecial?_slot (name := Str.ofString "__next__") hT ci_slot_next (wpAny_call_entry ci_slot_next hT ci_entry_next ?_ (ci_args_next _))))
  unfold Builtin.«callable_iterator.__next__»
  refine wpAny_bind (m := slotArgs "__next__" 0 _) (wpAny_pure ?_)
  refine wpAny_bind (wpAny_field (s := ⟨h, gs, dr, tk, os⟩) hI rfl (x := .bool true) rfl ?_)
  show wpAny _ _ (rule "callable_iterator.__next__.ended" >>= _) _ _ _
  refine wpAny_bind (wpAny_rule ?_)
  exact wpAny_bind (wpAny_mono (ci_stop (A := A) (Ai := A.in1) (E' := E) (Q := Q) hh fun h'' k => q h'' (S.stay k)) (fun _ _ (f : False) => f.elim) fun _ _ z => z)
end
end Mine

end
section
open PySem PySem.W PyProof.Rows PySem.Calls PySem.Spec
set_option Elab.async false
set_option maxRecDepth 100000
set_option maxHeartbeats 1000000
set_option linter.unusedVariables false
namespace Mine
section
variable {prog : Program} {w : World} {A : Around} {E : Value → Shared → Prop} {C : Cx} {L : Addr} {b : Sn} {m mg mb : Str → Option Value} {mu mu1 mu2 : Mu}
  {h h' : Heap} {gs : Array GenState} {dr : Drawn} {tk : Nat} {os : OsState} {env : Env} {x : Str} {pos : Pos} {v : Value}

theorem g_popM {d : Addr} {o : Obj} {pl : Sem Bool} {Q : Value × List Value → Shared → Prop} (S : St C L b m mu h) (hm : (d, o) ∈ mu) (hc : o.cls = .type "list") (hn : o.dict = none) (q : Q (.builtin "list.pop", [.ref d]) ⟨h, gs, dr, tk, os⟩) :
    wpAny (model prog w) A (getMethod (.ref d) "pop" pl) Q E ⟨h, gs, dr, tk, os⟩ :=
  getMethod_builtin (s := ⟨h, gs, dr, tk, os⟩) ⟨_, S.muin _ hm, hc⟩ PySem.F.plainAttrs_list PySem.F.slot_list_pop PySem.F.type_list_pop (fun a e => by cases e; exact ⟨_, S.muin _ hm, hn⟩) q
theorem isl_up {d : Addr} {vs : List Value} {k : Nat} {f : Array Value → Array Value} {ws : List Value} (hd : h.get? d = some (lstO vs k)) (e : f vs.toArray = ws.toArray) : ∃ k', (h.update d (Obj.mapSeq f)).get? d = some (lstO ws k') := by
  have q := PySem.IsL.update hd f
  rw [e] at q
  exact ⟨_, q⟩
/-- `l.pop()` -/
theorem g_popLast {d : Addr} {vs : List Value} {y : Value} {k : Nat} {Q : Value → Shared → Prop} (S : St C L b m (mu1 ++ (d, lstO (vs ++ [y]) k) :: mu2) h) (hz : vs.length ≤ 1000000)
    (q : ∀ k' h', St C L b m (mu1 ++ (d, lstO vs k') :: mu2) h' → Q y ⟨h', gs, dr, tk, os⟩) :
    wpAny (model prog w) A (call (.builtin "list.pop") [.ref d]) Q E ⟨h, gs, dr, tk, os⟩ := by
  have hd := S.muin (d, lstO (vs ++ [y]) k) (by simp)
  simp only at hd
  have hk : (vs ++ [y]).toArray.size - 1 = vs.length := by rw [List.size_toArray, List.length_append]; rfl
  have hy : (vs ++ [y]).toArray[(vs ++ [y]).toArray.size - 1]? = some y := by rw [hk]; simp
  have e : (fun (xs : Array Value) => xs.eraseIdxIfInBounds ((vs ++ [y]).toArray.size - 1)) (vs ++ [y]).toArray = vs.toArray := by
    show (vs ++ [y]).toArray.eraseIdxIfInBounds ((vs ++ [y]).toArray.size - 1) = vs.toArray
    rw [hk, kl_erase, List.append_nil]
  obtain ⟨k', hk'⟩ := isl_up (f := fun (xs : Array Value) => xs.eraseIdxIfInBounds ((vs ++ [y]).toArray.size - 1)) (ws := vs) hd e
  exact call_meets (s := ⟨h, gs, dr, tk, os⟩) PySem.F.slot_list_pop ⟨_, hd, rfl⟩ PySem.F.entry_list_pop (PySem.F.args_list_pop_1 _) (PySem.MeetsSeq.list_pop_last d _ k y hy (by rw [List.size_toArray, sizeLine_eq]; simp; omega))
    ⟨hd, q k' _ (S.mut hk' fun a o n e => (Heap.SameBut.update ..).extBut a o n e)⟩
/-- `l.pop(0)` -/
theorem g_popFirst {d : Addr} {vs : List Value} {y : Value} {k : Nat} {t : Tok} {Q : Value → Shared → Prop} (S : St C L b m (mu1 ++ (d, lstO (y :: vs) k) :: mu2) h) (hz : vs.length ≤ 1000000)
    (q : ∀ k' h', St C L b m (mu1 ++ (d, lstO vs k') :: mu2) h' → Q y ⟨h', gs, dr, tk, os⟩) :
    wpAny (model prog w) A (call (.builtin "list.pop") [.ref d, .int 0 t]) Q E ⟨h, gs, dr, tk, os⟩ := by
  have hd := S.muin (d, lstO (y :: vs) k) (by simp)
  simp only at hd
  have hy : (y :: vs).toArray[0]? = some y := by simp
  have hk : seqIndex? 0 (y :: vs).toArray.size = some 0 := by unfold seqIndex?; simp
  have e : (fun (xs : Array Value) => xs.eraseIdxIfInBounds 0) (y :: vs).toArray = vs.toArray := by
    show (([] : List Value) ++ y :: vs).toArray.eraseIdxIfInBounds ([] : List Value).length = vs.toArray
    rw [kl_erase, List.nil_append]
  obtain ⟨k', hk'⟩ := isl_up (f := fun (xs : Array Value) => xs.eraseIdxIfInBounds 0) (ws := vs) hd e
  exact call_meets (s := ⟨h, gs, dr, tk, os⟩) PySem.F.slot_list_pop ⟨_, hd, rfl⟩ PySem.F.entry_list_pop (PySem.F.args_list_pop_2 _ _) (PySem.MeetsSeq.list_pop_at d _ k 0 t 0 y (by decide +kernel) hk hy (by rw [List.size_toArray, sizeLine_eq]; simp; omega))
    ⟨hd, q k' _ (S.mut hk' fun a o n e => (Heap.SameBut.update ..).extBut a o n e)⟩
end
end Mine

end
section
open PySem PySem.W PyProof.Rows PySem.Calls PySem.Spec
set_option Elab.async false
set_option maxRecDepth 100000
set_option maxHeartbeats 1000000
set_option linter.unusedVariables false
namespace Mine
def offL (xs ys : List Str) : List Str := xs.filter (fun x => !ys.any (· == x))
def linksL (xs ys : List Str) : List Str := offL xs ys ++ offL ys xs

theorem filled' : PySem.Challenge.rw_xo0020_01 = PySem.Challenge.rw_xo0020_01 ∧ Mine.hd.heap_39 = Mine.hd.heap_39 := by k_fill; exact ⟨rfl, rfl⟩
section
variable {prog : Program} {w : World} {A : Around} {E : Value → Shared → Prop} {C : Cx} {L : Addr} {b : Sn} {m mg mb : Str → Option Value} {mu : Mu}
  {h h' : Heap} {gs : Array GenState} {dr : Drawn} {tk : Nat} {os : OsState} {env : Env} {x : Str} {pos : Pos} {v : Value}

theorem take_filter_succ {α : Type} {p : α → Bool} {l : List α} {i : Nat} {a : α} (h : l[i]? = some a) : (l.take (i + 1)).filter p = (l.take i).filter p ++ (if p a = true then [a] else []) := by
  rw [List.take_add_one, h, List.filter_append]
  cases hp : p a <;> simp [hp]

theorem links_spec {a c : Addr} {xs ys : List Str} {Q : Value → Shared → Prop} (G : Glb w mg mb C.h₀) (hh : A.handled = none) (hd : A.depth + 2 < recursionLimit) (S : St C L b m mu h) (ha : StrB b a xs) (hc : StrB b c ys)
    (hx : xs.length ≤ 100) (hy : ys.length ≤ 100)
    (q : ∀ r b' h' tk', b.Le b' → St C L b' m mu h' → StrB b' r (linksL xs ys) → Q (.ref r) ⟨h', gs, dr, tk', os⟩) :
    wpAny (model prog w) A (call (.ref 212) [.ref a, .ref c]) Q E ⟨h, gs, dr, tk, os⟩ := by
  refine own_callC (binds := [("here", .ref a), ("there", .ref c)]) (mv := []) (mr := mu) G S (by omega) (by k_is) (by k_is) (BindsTo.of_eq rfl) ?_
  intro L' h₁ tk₁ cells Y S₁
  have hY := CellsAre.two Y; obtain ⟨o1, o2, rfl, d1, d2⟩ := hY; clear Y
  replace d1 : o1.data = .cell (some (.ref c)) := d1
  replace d2 : o2.data = .cell (some (.ref a)) := d2
  obtain ⟨b₁, l₁, S₂, c1⟩ := S₁.fzCell d1 (by simp)
  obtain ⟨b₂, l₂, S₃, c2⟩ := S₂.fzCell d2 (by simp)
  replace c1 := c1.le l₂
  have hb2 := l₁.trans l₂
  obtain ⟨vs, hvs, ia⟩ := ha.le hb2
  obtain ⟨us, hus, ic⟩ := hc.le hb2
  clear S₁ S₂ d1 d2 l₁ l₂
  have hvl := ia.length
  have hul := ic.length
  refine wpAny_execs_cons (wpAny_Return_some (wpAny_BinOp ?_))
  refine lc_eval (cl := _) (by with_unfolding_all rfl) rfl (by decide) ?_
  refine nmC rfl (c2.at S₃) ?_
  refine it_list (by exact hh) S₃ hvs ?_
  intro I io h₂ _ hI S₄ W
  refine lc_block S₄ hI (W _ hh) (by rw [sizeLine_eq]; omega) (by decide) rfl rfl (fun i zs b' => StrsAre zs ((xs.take i).filter (fun x => !ys.any (· == x)))) .nil ?_ ?_
  · intro Cc D i v zs b₃ io₁ k m₁ h₃ tk₃ hi hv hJ hb hm S'
    obtain ⟨y, t, rfl, hy⟩ := StrsAre.item' ia hv
    refine wpAny_tests_one (wpAny_isTrue_Compare1 ?_)
    refine nmL S' hm (nmC rfl ((c1.le hb).at S') ?_)
    refine notin_list_strs ((hus.le hb).at S') ic (wpAny_truthy_bool ⟨_, _, _, rfl, S', Sn.Le.refl _, ?_⟩)
    split
    · rename_i hp
      refine nmL S' hm ⟨_, _, _, rfl, S', Sn.Le.refl _, ?_⟩
      show StrsAre _ (List.filter _ (List.take (i + 1) xs))
      rw [take_filter_succ hy, if_pos hp]
      exact StrsAre.snoc' hJ _ _
    · rename_i hp
      show StrsAre _ (List.filter _ (List.take (i + 1) xs))
      rw [take_filter_succ hy, if_neg hp, List.append_nil]
      exact hJ
  · intro zs b₃ D k h₃ tk₃ hJ hb hl hD S₅
    rw [hvl, List.take_length] at hJ
    obtain ⟨b₄, l₄, S₆, hD₁⟩ := S₅.fzLst hD
    clear S₅ S₄ W S₃
    refine lc_eval (cl := _) (by with_unfolding_all rfl) rfl (by decide) ?_
    refine nmC rfl ((c1.le (hb.trans l₄)).at S₆) ?_
    refine it_list (by exact hh) S₆ (hus.le (hb.trans l₄)) ?_
    intro I₂ io₂ h₅ _ hI₂ S₇ W₂
    refine lc_block S₇ hI₂ (W₂ _ hh) (by rw [sizeLine_eq]; omega) (by decide) rfl rfl (fun i zs b' => StrsAre zs ((ys.take i).filter (fun x => !xs.any (· == x)))) .nil ?_ ?_
    · intro Cc D i v zs b₃ io₁ k m₁ h₃ tk₃ hi hv hJ hb' hm S'
      obtain ⟨y, t, rfl, hy⟩ := StrsAre.item' ic hv
      refine wpAny_tests_one (wpAny_isTrue_Compare1 ?_)
      refine nmL S' hm (nmC rfl ((c2.le (hb.trans (l₄.trans hb'))).at S') ?_)
      refine notin_list_strs ((hvs.le (hb.trans (l₄.trans hb'))).at S') ia (wpAny_truthy_bool ⟨_, _, _, rfl, S', Sn.Le.refl _, ?_⟩)
      split
      · rename_i hp
        refine nmL S' hm ⟨_, _, _, rfl, S', Sn.Le.refl _, ?_⟩
        show StrsAre _ (List.filter _ (List.take (i + 1) ys))
        rw [take_filter_succ hy, if_pos hp]
        exact StrsAre.snoc' hJ _ _
      · rename_i hp
        show StrsAre _ (List.filter _ (List.take (i + 1) ys))
        rw [take_filter_succ hy, if_neg hp, List.append_nil]
        exact hJ
    · intro zs₂ b₅ D₂ k₂ h₆ tk₆ hJ₂ hb₂ hl₂ hD₂ S₈
      rw [hul, List.take_length] at hJ₂
      obtain ⟨b₆, l₆, S₉, hD₃⟩ := S₈.fzLst hD₂
      refine g_addL S₉ (hD₁.le (hb₂.trans l₆)) hD₃ ?_ (by rw [sizeLine_eq]; omega)
      intro D₄ h₇ hD₄ S₁₀
      obtain ⟨b₇, l₇, S₁₁, hD₅⟩ := S₁₀.fzLst hD₄
      exact .intro S₁₁ fun S' => q _ _ _ _ S₁₁.b0b S' ⟨_, hD₅, StrsAre.append' hJ hJ₂⟩
end
end Mine

end
section
open PySem PySem.W PyProof.Rows PySem.Calls PySem.Spec
set_option Elab.async false
set_option maxRecDepth 100000
set_option maxHeartbeats 1000000
set_option linter.unusedVariables false
namespace Mine
theorem filled2 : PySem.Challenge.rw_xo0020_01 = PySem.Challenge.rw_xo0020_01 ∧ Mine.hd.heap_39 = Mine.hd.heap_39 := by k_fill; exact ⟨rfl, rfl⟩
section
variable {prog : Program} {w : World} {A : Around} {E : Value → Shared → Prop} {C : Cx} {L : Addr} {b : Sn} {m mg mb : Str → Option Value} {mu : Mu}
  {h h' : Heap} {gs : Array GenState} {dr : Drawn} {tk : Nat} {os : OsState} {env : Env} {x : Str} {pos : Pos} {v : Value}

def sumV (kvs : List (Str × Int)) : Int := (kvs.map (·.2)).sum
theorem sumV_take_succ {kvs : List (Str × Int)} {i : Nat} {k : Str} {n : Int} (h : kvs[i]? = some (k, n)) : sumV (kvs.take (i + 1)) = sumV (kvs.take i) + n := by
  simp [sumV, List.take_add_one, h]

theorem count_calls_spec {d : Value} {kvs : List (Str × Int)} {Q : Value → Shared → Prop} (G : Glb w mg mb C.h₀) (hh : A.handled = none) (hd : A.depth + 2 < recursionLimit) (S : St C L b m mu h) (D : DcOf prog w IsI b d kvs)
    (q : ∀ b' h' t tk', b.Le b' → St C L b' m mu h' → Q (.int (sumV kvs) t) ⟨h', gs, dr, tk', os⟩) :
    wpAny (model prog w) A (call (.ref 73) [d]) Q E ⟨h, gs, dr, tk, os⟩ := by
  obtain ⟨d, es, rfl, hD, al⟩ := D
  refine own_call (binds := [("callers", .ref d)]) (mv := []) (mr := mu) G S (by omega) (by k_is) (by k_is) (BindsTo.of_eq rfl) ?_
  intro L' h₁ tk₁ S₁
  refine wpAny_execs_cons (wpAny_Assign_Name (cInt fun t tk => stL S₁ fun h₂ tk₂ S₂ => ?_))
  clear S₁
  refine wpAny_execs_cons (wpAny_For (MethodCall_ (nmL S₂ rfl (g_valuesM S₂ hD (callWith_method0 (g_values S₂ hD fun V b₁ h₃ l₁ S₃ hV => ?_))))))
  clear S₂
  refine it_vals S₃ hV (hD.le l₁) fun I io h₄ _ hI S₄ W => ?_
  refine for_it (W _ hh) S₄ hI (fun i m' mu' b' => mu' = [] ∧ ∃ t, m' "nc" = some (.int (sumV (kvs.take i)) t)) ⟨rfl, t, rfl⟩ ?_ ?_
  · rintro i v io₁ m₁ mu₁ b₂ h₅ tk₅ hi ⟨k, hk⟩ ⟨rfl, t, hm⟩ hb S₅
    obtain ⟨⟨k', n⟩, hk', _, t', rfl⟩ := al.get hk
    refine wpAny_execs_cons (wpAny_AugAssign_Name (ldL S₅ hm (nmL S₅ rfl (i_iadd fun t₁ tk₆ => stL S₅ fun h₆ tk₇ S₆ => ?_))))
    exact wpAny_execs_nil (.next S₆ (Sn.Le.refl _) ⟨rfl, t₁, by rw [sumV_take_succ hk']; rfl⟩)
  · rintro m₁ mu₁ b₂ h₅ tk₅ ⟨rfl, t, hm⟩ hb S₅
    rw [al.length, List.take_length] at hm
    refine wpAny_execs_cons (wpAny_Return_some (nmL S₅ hm ?_))
    exact .intro S₅ fun S' => q _ _ _ _ S₅.b0b S'

-- the operators
section
variable {a c : Int} {t1 t2 : Tok} {Q : Value → Shared → Prop}
theorem add_spec (G : Glb w mg mb C.h₀) (hd : A.depth + 2 < recursionLimit) (S : St C L b m mu h) (q : ∀ b' h' t tk', b.Le b' → St C L b' m mu h' → Q (.int (a + c) t) ⟨h', gs, dr, tk', os⟩) :
    wpAny (model prog w) A (call (.ref 155) [.int a t1, .int c t2]) Q E ⟨h, gs, dr, tk, os⟩ := by
  refine own_call (binds := [("a", .int a t1), ("b", .int c t2)]) (mv := []) (mr := mu) G S (by omega) (by k_is) (by k_is) (BindsTo.of_eq rfl) ?_
  intro L' h₁ tk₁ S₁
  exact wpAny_execs_cons (wpAny_Return_some (wpAny_BinOp (nmL S₁ rfl (nmL S₁ rfl (i_add fun t tk => .intro S₁ fun S' => q _ _ _ _ (Sn.Le.refl _) S')))))
theorem sub_spec (G : Glb w mg mb C.h₀) (hd : A.depth + 2 < recursionLimit) (S : St C L b m mu h) (q : ∀ b' h' t tk', b.Le b' → St C L b' m mu h' → Q (.int (a - c) t) ⟨h', gs, dr, tk', os⟩) :
    wpAny (model prog w) A (call (.ref 169) [.int a t1, .int c t2]) Q E ⟨h, gs, dr, tk, os⟩ := by
  refine own_call (binds := [("a", .int a t1), ("b", .int c t2)]) (mv := []) (mr := mu) G S (by omega) (by k_is) (by k_is) (BindsTo.of_eq rfl) ?_
  intro L' h₁ tk₁ S₁
  exact wpAny_execs_cons (wpAny_Return_some (wpAny_BinOp (nmL S₁ rfl (nmL S₁ rfl (i_sub fun t tk => .intro S₁ fun S' => q _ _ _ _ (Sn.Le.refl _) S')))))
theorem mul_spec (G : Glb w mg mb C.h₀) (hd : A.depth + 2 < recursionLimit) (S : St C L b m mu h) (ha : -(2 ^ 64) < a ∧ a < 2 ^ 64) (q : ∀ b' h' t tk', b.Le b' → St C L b' m mu h' → Q (.int (a * c) t) ⟨h', gs, dr, tk', os⟩) :
    wpAny (model prog w) A (call (.ref 162) [.int a t1, .int c t2]) Q E ⟨h, gs, dr, tk, os⟩ := by
  refine own_call (binds := [("a", .int a t1), ("b", .int c t2)]) (mv := []) (mr := mu) G S (by omega) (by k_is) (by k_is) (BindsTo.of_eq rfl) ?_
  intro L' h₁ tk₁ S₁
  exact wpAny_execs_cons (wpAny_Return_some (wpAny_BinOp (nmL S₁ rfl (nmL S₁ rfl (i_mul ha fun t tk => .intro S₁ fun S' => q _ _ _ _ (Sn.Le.refl _) S')))))
theorem gt_spec (G : Glb w mg mb C.h₀) (hd : A.depth + 2 < recursionLimit) (S : St C L b m mu h) (q : ∀ b' h' tk', b.Le b' → St C L b' m mu h' → Q (.bool (decide (a > c))) ⟨h', gs, dr, tk', os⟩) :
    wpAny (model prog w) A (call (.ref 148) [.int a t1, .int c t2]) Q E ⟨h, gs, dr, tk, os⟩ := by
  refine own_call (binds := [("a", .int a t1), ("b", .int c t2)]) (mv := []) (mr := mu) G S (by omega) (by k_is) (by k_is) (BindsTo.of_eq rfl) ?_
  intro L' h₁ tk₁ S₁
  exact wpAny_execs_cons (wpAny_Return_some (wpAny_Compare1 (nmL S₁ rfl (nmL S₁ rfl (i_gt (.intro S₁ fun S' => q _ _ _ (Sn.Le.refl _) S'))))))
theorem ne_spec {x y : Str} (G : Glb w mg mb C.h₀) (hd : A.depth + 2 < recursionLimit) (S : St C L b m mu h) (q : ∀ b' h' tk', b.Le b' → St C L b' m mu h' → Q (.bool (x != y)) ⟨h', gs, dr, tk', os⟩) :
    wpAny (model prog w) A (call (.ref 141) [.str x t1, .str y t2]) Q E ⟨h, gs, dr, tk, os⟩ := by
  refine own_call (binds := [("a", .str x t1), ("b", .str y t2)]) (mv := []) (mr := mu) G S (by omega) (by k_is) (by k_is) (BindsTo.of_eq rfl) ?_
  intro L' h₁ tk₁ S₁
  exact wpAny_execs_cons (wpAny_Return_some (wpAny_Compare1 (nmL S₁ rfl (nmL S₁ rfl (PyProof.Rows.ne_str (.intro S₁ fun S' => q _ _ _ (Sn.Le.refl _) S'))))))
end
end
end Mine

end
section
open PySem PySem.W PyProof.Rows PySem.Calls PySem.Spec
set_option Elab.async false
set_option maxRecDepth 100000
set_option maxHeartbeats 1000000
set_option linter.unusedVariables false
namespace Mine
theorem filled4 : PySem.Challenge.rw_xo0020_01 = PySem.Challenge.rw_xo0020_01 ∧ Mine.hd.heap_39 = Mine.hd.heap_39 := by k_fill; exact ⟨rfl, rfl⟩

theorem sum_take_succ {l : List Int} {i : Nat} {x : Int} (h : l[i]? = some x) : (l.take (i + 1)).sum = (l.take i).sum + x := by
  simp [List.take_add_one, h]
def sumK (len : List (Str × Int)) (ls : List Str) (p : Str × Int) : List Int := ls.map fun l => p.2 * (look len l).getD 0
def sumWays (W : List (List Str)) (B : List (Str × Int)) (len : List (Str × Int)) : List Int := List.zipWith (fun ls p => (sumK len ls p).sum) W B

section
variable {prog : Program} {w : World} {A : Around} {E : Value → Shared → Prop} {C : Cx} {L : Addr} {b : Sn} {m mg mb : Str → Option Value} {mu : Mu}
  {h h' : Heap} {gs : Array GenState} {dr : Drawn} {tk : Nat} {os : OsState} {env : Env} {x : Str} {pos : Pos} {v : Value}

theorem law_sum_spec {v1 v2 v3 : Value} {W : List (List Str)} {B len : List (Str × Int)} {Q : Value → Shared → Prop} (G : Glb w mg mb C.h₀) (hh : A.handled = none) (hd : A.depth + 2 < recursionLimit) (S : St C L b m mu h)
    (D1 : LsOf (LsOf IsS) b v1 W) (D2 : LsOf (TpOf IsS IsI) b v2 B) (D3 : DcOf prog w IsI b v3 len) (hn : W.length = B.length) (hB : B.length ≤ 1000) (hw : ∀ p ∈ B, -(2 ^ 64) < p.2 ∧ p.2 < 2 ^ 64)
    (hl : ∀ ls ∈ W, ls.length ≤ 1000 ∧ ∀ l ∈ ls, (look len l).isSome = true)
    (q : ∀ b' h' t tk', b.Le b' → St C L b' m mu h' → Q (.int (sumWays W B len).sum t) ⟨h', gs, dr, tk', os⟩) :
    wpAny (model prog w) A (call (.ref 219) [v1, v2, v3]) Q E ⟨h, gs, dr, tk, os⟩ := by
  obtain ⟨a1, vs1, rfl, L1, al1⟩ := D1
  obtain ⟨a2, vs2, rfl, L2, al2⟩ := D2
  obtain ⟨d3, es3, rfl, L3, al3⟩ := D3
  have n1 := al1.length
  have n2 := al2.length
  refine own_call (binds := [("ways", .ref a1), ("ballots", .ref a2), ("lengths", .ref d3)]) (mv := []) (mr := mu) G S (by omega) (by k_is) (by k_is) (BindsTo.of_eq rfl) ?_
  intro L' h₁ tk₁ S₁
  refine wpAny_execs_cons (wpAny_Assign_Name (cInt fun t tk => stL S₁ fun h₂ tk₂ S₂ => ?_))
  clear S₁
  refine wpAny_execs_cons (wpAny_For (g_rangeE (n := B.length) G.to S₂ (by k_is) (by omega) (g_lenE G.to S₂ (by k_is) (nmL S₂ rfl (g_len (L2.at S₂) (by omega) fun t₃ tk₃ => ⟨_, _, _, _, rfl, by rw [n2], S₂, ?_⟩)))))
  intro I io b₁ h₃ tk₃ l₁ _ hI S₃ W₃
  refine for_it (W₃ _ hh) S₃ hI (fun i m' mu' b' => mu' = [] ∧ m' "ways" = some (.ref a1) ∧ m' "ballots" = some (.ref a2) ∧ m' "lengths" = some (.ref d3) ∧ ∃ t, m' "far" = some (.int ((sumWays W B len).take i).sum t)) ⟨rfl, rfl, rfl, rfl, t, rfl⟩ ?_ ?_
  · rintro i v io₁ m₁ mu₁ b₂ h₅ tk₅ hi ⟨ti, rfl⟩ ⟨rfl, e1, e2, e3, tf, e4⟩ hb S₅
    replace hb := l₁.trans hb
    obtain ⟨p, hp⟩ : ∃ p, B[i]? = some p := ⟨B[i], by simp [hi]⟩
    obtain ⟨ls, hls⟩ : ∃ ls, W[i]? = some ls := ⟨W[i], by simp⟩
    obtain ⟨vb, hvb, ab, x, y, rfl, hT, _, ty, rfl⟩ := al2.get' hp
    obtain ⟨vw, hvw, aw, vws, rfl, hL, alw⟩ := al1.get' hls
    obtain ⟨hl1, hl2⟩ := hl ls (List.mem_of_getElem? hls)
    have nw := alw.length
    refine wpAny_execs_cons (wpAny_For (Subscript_ (nmL S₅ e1 (nmL S₅ rfl (g_item S₅ (L1.le hb) rfl hvw (by omega) (it_list (by exact hh) S₅ (hL.le hb) fun I₂ io₂ h₆ _ hI₂ S₆ W₆ => ?_))))))
    refine for_it (W₆ _ hh) S₆ hI₂ (fun j m' mu' b' => mu' = [(I, io₁)] ∧ m' "ways" = some (.ref a1) ∧ m' "ballots" = some (.ref a2) ∧ m' "lengths" = some (.ref d3) ∧ m' "k" = some (.int i ti) ∧ ∃ t, m' "far" = some (.int (((sumWays W B len).take i).sum + ((sumK len ls p).take j).sum) t)) ⟨rfl, e1, e2, e3, rfl, tf, by rw [List.take_zero, List.sum_nil, Int.add_zero]; exact e4⟩ ?_ ?_
    · rintro j v io₃ m₃ mu₃ b₃ h₇ tk₇ hj hv ⟨rfl, e1, e2, e3, ek, tf, e4⟩ hb₃ S₇
      replace hb₃ := hb.trans hb₃
      obtain ⟨l, hlk, t', rfl⟩ := alw.get hv
      obtain ⟨n, hn'⟩ := Option.isSome_iff_exists.mp (hl2 l (List.mem_of_getElem? hlk))
      obtain ⟨vn, hvn, tn, rfl⟩ := (valueAt_look (k := l) al3).2 n hn'
      refine wpAny_execs_cons (wpAny_AugAssign_Name (ldL S₇ e4 (wpAny_BinOp (Subscript_ (Subscript_ (nmL S₇ e2 (nmL S₇ ek (g_item S₇ (L2.le hb₃) rfl hvb (by omega) (cInt fun t₈ tk₈ => g_itemT (i := 1) S₇ (hT.le hb₃) rfl rfl (by simp) ?_)))))))))
      refine Subscript_ (nmL S₇ e3 (nmL S₇ rfl (g_itemD S₇ (L3.le hb₃) hvn fun tk₉ => i_mul (hw p (List.mem_of_getElem? hp)) fun t₁₀ tk₁₀ => i_iadd fun t₁₁ tk₁₁ => stL S₇ fun h₈ tk₁₂ S₈ => ?_)))
      have hsk : (sumK len ls p)[j]? = some (p.2 * n) := by simp [sumK, hlk, hn']
      exact wpAny_execs_nil (.next S₈ (Sn.Le.refl _) ⟨rfl, e1, e2, e3, ek, t₁₁, by rw [sum_take_succ hsk, ← Int.add_assoc]; rfl⟩)
    · rintro m₃ mu₃ b₃ h₇ tk₇ ⟨rfl, e1, e2, e3, ek, tf, e4⟩ hb₃ S₇
      have hsk : (sumWays W B len)[i]? = some (sumK len ls p).sum := by simp [sumWays, hls, hp, List.getElem?_zipWith]
      have hfull : (sumK len ls p).take vws.length = sumK len ls p := List.take_of_length_le (by simp [sumK]; omega)
      rw [hfull] at e4
      exact wpAny_execs_nil (.next S₇ hb₃ ⟨rfl, e1, e2, e3, tf, by rw [sum_take_succ hsk]; exact e4⟩)
  · rintro m₁ mu₁ b₂ h₅ tk₅ ⟨rfl, e1, e2, e3, tf, e4⟩ hb S₅
    have hfull : (sumWays W B len).take B.length = sumWays W B len := List.take_of_length_le (by simp [sumWays]; omega)
    rw [hfull] at e4
    refine wpAny_execs_cons (wpAny_Return_some (nmL S₅ e4 ?_))
    exact .intro S₅ fun S' => q _ _ _ _ S₅.b0b S'
end
end Mine

end
section
open PySem PySem.W PyProof.Rows PySem.Calls PySem.Spec
set_option Elab.async false
set_option maxRecDepth 100000
set_option maxHeartbeats 1000000
set_option linter.unusedVariables false
namespace Mine
theorem filled5 : PySem.Challenge.rw_xo0020_01 = PySem.Challenge.rw_xo0020_01 ∧ Mine.hd.heap_39 = Mine.hd.heap_39 := by k_fill; exact ⟨rfl, rfl⟩

def voteK (wt we : List Str) (p : Int) : Int := if wt.length < we.length then p else if wt.length > we.length then -p else 0
def lostAt (Wt We : List (List Str)) (B : List (Str × Int)) (k : Nat) : Int := voteK (Wt.getD k []) (We.getD k []) ((B.map (·.2)).getD k 0)
def lostS (Wt We : List (List Str)) (B : List (Str × Int)) (n : Nat) : Int := ((List.range n).map (lostAt Wt We B)).sum
theorem lostS_succ (Wt We B n) : lostS Wt We B (n + 1) = lostS Wt We B n + lostAt Wt We B n := by simp [lostS, List.range_succ]
def beats (ways : List (Str × List (List Str))) (B : List (Str × Int)) (here there : Str) : Bool := decide (0 < lostS ((look ways there).getD []) ((look ways here).getD []) B B.length)
def unbeaten (ways : List (Str × List (List Str))) (B : List (Str × Int)) (names : List Str) : List Str := names.filter fun here => !names.any (beats ways B here)
theorem any_take_succ {α : Type} {p : α → Bool} {l : List α} {i : Nat} {a : α} (h : l[i]? = some a) : (l.take (i + 1)).any p = ((l.take i).any p || p a) := by
  rw [List.take_add_one, h]; simp
theorem filter_take_succ {α : Type} {p : α → Bool} {l : List α} {i : Nat} {a : α} (h : l[i]? = some a) : (l.take (i + 1)).filter p = (l.take i).filter p ++ (if p a = true then [a] else []) := by
  rw [List.take_add_one, h, List.filter_append]
  cases hp : p a <;> simp [hp]

section
variable {prog : Program} {w : World} {A : Around} {E : Value → Shared → Prop} {C : Cx} {L : Addr} {b : Sn} {m mg mb : Str → Option Value} {mu : Mu}
  {h h' : Heap} {gs : Array GenState} {dr : Drawn} {tk : Nat} {os : OsState} {env : Env} {x : Str} {pos : Pos} {v : Value}

inductive UnbA (a1 d2 a3 D : Addr) (names : List Str) (ways : List (Str × List (List Str))) (B : List (Str × Int)) (i : Nat) (m' : Str → Option Value) (mu' : Mu) (b' : Sn) : Prop
  | mk (e1 : m' "names" = some (.ref a1)) (e2 : m' "ways" = some (.ref d2)) (e3 : m' "ballots" = some (.ref a3)) (e4 : m' "kept" = some (.ref D)) (ks : List Value) (kk : Nat) (e : mu' = [(D, lstO ks kk)]) (hz : ks.length ≤ i)
    (al : All2 (IsS b') ks ((names.take i).filter fun here => !names.any (beats ways B here))) : UnbA a1 d2 a3 D names ways B i m' mu' b'
inductive UnbB (a1 d2 a3 D : Addr) (names : List Str) (ways : List (Str × List (List Str))) (B : List (Str × Int)) (mu0 : Mu) (here : Str) (th : Tok) (j : Nat) (m' : Str → Option Value) (mu' : Mu) (b' : Sn) : Prop
  | mk (e1 : m' "names" = some (.ref a1)) (e2 : m' "ways" = some (.ref d2)) (e3 : m' "ballots" = some (.ref a3)) (e4 : m' "kept" = some (.ref D)) (e : mu' = mu0) (eh : m' "here" = some (.str here th))
    (eb : m' "beaten" = some (.bool ((names.take j).any (beats ways B here)))) : UnbB a1 d2 a3 D names ways B mu0 here th j m' mu' b'
inductive UnbC (a1 d2 a3 D : Addr) (names : List Str) (ways : List (Str × List (List Str))) (B : List (Str × Int)) (mu0 : Mu) (here : Str) (th : Tok) (there : Str) (tt : Tok) (j : Nat) (Wt We : List (List Str)) (k : Nat) (m' : Str → Option Value) (mu' : Mu) (b' : Sn) : Prop
  | mk (e1 : m' "names" = some (.ref a1)) (e2 : m' "ways" = some (.ref d2)) (e3 : m' "ballots" = some (.ref a3)) (e4 : m' "kept" = some (.ref D)) (e : mu' = mu0) (eh : m' "here" = some (.str here th)) (et : m' "there" = some (.str there tt))
    (eb : m' "beaten" = some (.bool ((names.take j).any (beats ways B here)))) (t : Tok) (el : m' "lost" = some (.int (lostS Wt We B k) t)) : UnbC a1 d2 a3 D names ways B mu0 here th there tt j Wt We k m' mu' b'

theorem unbeaten_spec {v1 v2 v3 : Value} {names : List Str} {ways : List (Str × List (List Str))} {B : List (Str × Int)} {Q : Value → Shared → Prop} (G : Glb w mg mb C.h₀) (hh : A.handled = none) (hd : A.depth + 2 < recursionLimit) (S : St C L b m mu h)
    (D1 : LsOf IsS b v1 names) (D2 : DcOf prog w (LsOf (LsOf IsS)) b v2 ways) (D3 : LsOf (TpOf IsS IsI) b v3 B) (hN : names.length ≤ 1000) (hB : B.length ≤ 1000)
    (hw : ∀ n ∈ names, ∃ W, look ways n = some W ∧ W.length = B.length ∧ ∀ ls ∈ W, ls.length ≤ 1000)
    (q : ∀ r b' h' tk', b.Le b' → St C L b' m mu h' → LsOf IsS b' r (unbeaten ways B names) → Q r ⟨h', gs, dr, tk', os⟩) :
    wpAny (model prog w) A (call (.ref 226) [v1, v2, v3]) Q E ⟨h, gs, dr, tk, os⟩ := by
  obtain ⟨a1, vs1, rfl, L1, al1⟩ := D1
  obtain ⟨d2, es2, rfl, L2, al2⟩ := D2
  obtain ⟨a3, vs3, rfl, L3, al3⟩ := D3
  have n1 := al1.length
  have n3 := al3.length
  refine own_call (binds := [("names", .ref a1), ("ways", .ref d2), ("ballots", .ref a3)]) (mv := []) (mr := mu) G S (by omega) (by k_is) (by k_is) (BindsTo.of_eq rfl) ?_
  intro L' h₁ tk₁ S₁
  refine wpAny_execs_cons (wpAny_Assign_Name (List_ (spliced_nil (g_newL S₁ (by simp) fun D h₂ hD _ S₂ => stL S₂ fun h₃ tk₃ S₃ => ?_))))
  clear S₁ S₂
  refine wpAny_execs_cons (wpAny_For (nmL S₃ rfl (it_list (by exact hh) S₃ L1 fun I io h₄ _ hI S₄ W₄ => ?_)))
  refine for_it (W₄ _ hh) S₄ hI (UnbA a1 d2 a3 D names ways B)
    ⟨rfl, rfl, rfl, rfl, [], 0, rfl, Nat.le_refl _, .nil⟩ ?_ ?_
  · rintro i v io₁ m₁ mu₁ b₁ h₅ tk₅ hi hv ⟨e1, e2, e3, e4, ks, kk, rfl, hks, alk⟩ hb S₅
    obtain ⟨here, hhere, th, rfl⟩ := al1.get hv
    obtain ⟨We, hWe, nWe, zWe⟩ := hw here (List.mem_of_getElem? hhere)
    obtain ⟨vwe, hvwe, awe, vswe, rfl, Lwe, alwe⟩ := (valueAt_look (k := here) al2).2 _ hWe
    refine wpAny_execs_cons (wpAny_Assign_Name (Constant_bool (stL S₅ fun h₆ tk₆ S₆ => ?_)))
    refine wpAny_execs_cons (wpAny_For (nmL S₆ e1 (it_list (by exact hh) S₆ (L1.le hb) fun I₂ io₂ h₇ _ hI₂ S₇ W₇ => ?_)))
    refine for_it (W₇ _ hh) S₇ hI₂ (UnbB a1 d2 a3 D names ways B [(I, io₁), (D, lstO ks kk)] here th)
      ⟨e1, e2, e3, e4, rfl, rfl, rfl⟩ ?_ ?_
    · rintro j v io₃ m₃ mu₃ b₃ h₈ tk₈ hj hv ⟨e1, e2, e3, e4, rfl, eh, eb⟩ hb₃ S₈
      obtain ⟨there, hthere, tt, rfl⟩ := al1.get hv
      obtain ⟨Wt, hWt, nWt, zWt⟩ := hw there (List.mem_of_getElem? hthere)
      obtain ⟨vwt, hvwt, awt, vswt, rfl, Lwt, alwt⟩ := (valueAt_look (k := there) al2).2 _ hWt
      replace hb₃ := hb.trans hb₃
      have nwe := alwe.length
      have nwt := alwt.length
      refine wpAny_execs_cons (wpAny_Assign_Name (cInt fun t9 tk9 => stL S₈ fun h₉ tk₉ S₉ => ?_))
      refine wpAny_execs_cons (wpAny_For (g_rangeE (n := B.length) G.to S₉ (by k_is) (by omega) (g_lenE G.to S₉ (by k_is) (nmL S₉ e3 (g_len ((L3.le hb₃).at S₉) (by omega) fun t₃ tk₃ => ⟨_, _, _, _, rfl, by rw [n3], S₉, ?_⟩)))))
      intro I₄ io₄ b₄ h₁₀ tk₁₀ l₄ _ hI₄ S₁₀ W₁₀
      refine for_it (W₁₀ _ hh) S₁₀ hI₄ (UnbC a1 d2 a3 D names ways B [(I₂, io₃), (I, io₁), (D, lstO ks kk)] here th there tt j Wt We) ⟨e1, e2, e3, e4, rfl, eh, rfl, eb, t9, rfl⟩ ?_ ?_
      · rintro k v io₅ m₅ mu₅ b₅ h₁₁ tk₁₁ hk ⟨ti, rfl⟩ ⟨e1, e2, e3, e4, rfl, eh, et, eb, tl, el⟩ hb₅ S₁₁
        replace hb₅ := (hb₃.trans l₄).trans hb₅
        obtain ⟨p, hp⟩ : ∃ p, B[k]? = some p := ⟨B[k], by simp [hk]⟩
        obtain ⟨lt, hlt⟩ : ∃ ls, Wt[k]? = some ls := ⟨Wt[k], by simp⟩
        obtain ⟨le, hle⟩ : ∃ ls, We[k]? = some ls := ⟨We[k], by simp⟩
        obtain ⟨vb, hvb, ab, x, y, rfl, hT, _, ty, rfl⟩ := al3.get' hp
        obtain ⟨v1, hv1, at1, vst, rfl, hLt, alt⟩ := alwt.get' hlt
        obtain ⟨v2, hv2, ae1, vse, rfl, hLe, ale⟩ := alwe.get' hle
        have zt := zWt lt (List.mem_of_getElem? hlt)
        have ze := zWe le (List.mem_of_getElem? hle)
        have n5 := alt.length
        have n6 := ale.length
        have hlost : lostAt Wt We B k = voteK lt le p.2 := by simp [lostAt, List.getD, hlt, hle, hp]
        refine wpAny_execs_cons (wpAny_If (wpAny_isTrue_Compare1 ?_))
        refine g_lenE G.to S₁₁ (by k_is) (Subscript_ (Subscript_ (nmL S₁₁ e2 (nmL S₁₁ et (g_itemD S₁₁ (L2.le hb₅) hvwt fun tk => nmL S₁₁ rfl (g_item S₁₁ (Lwt.le hb₅) rfl hv1 (by omega) (g_len ((hLt.le hb₅).at S₁₁) (by omega) fun t tk => ?_)))))))
        refine g_lenE G.to S₁₁ (by k_is) (Subscript_ (Subscript_ (nmL S₁₁ e2 (nmL S₁₁ eh (g_itemD S₁₁ (L2.le hb₅) hvwe fun tk => nmL S₁₁ rfl (g_item S₁₁ (Lwe.le hb₅) rfl hv2 (by omega) (g_len ((hLe.le hb₅).at S₁₁) (by omega) fun t tk => ?_)))))))
        refine i_lt (wpAny_truthy_bool ?_)
        rw [n5, n6]
        by_cases hc : lt.length < le.length
        · rw [decide_eq_true (by omega)]
          refine wpAny_execs_cons (wpAny_AugAssign_Name (ldL S₁₁ el (Subscript_ (Subscript_ (nmL S₁₁ e3 (nmL S₁₁ rfl (g_item S₁₁ (L3.le hb₅) rfl hvb (by omega) (cInt fun t₈ tk₈ => g_itemT (i := 1) S₁₁ (hT.le hb₅) rfl rfl (by simp) ?_))))))))
          refine i_iadd fun t tk => stL S₁₁ fun h₁₂ tk₁₂ S₁₂ => wpAny_execs_nil (wpAny_execs_nil ?_)
          exact .next S₁₂ (Sn.Le.refl _) ⟨e1, e2, e3, e4, rfl, eh, et, eb, t, by rw [lostS_succ, hlost, voteK, if_pos hc]; rfl⟩
        · rw [decide_eq_false (by omega)]
          refine wpAny_execs_cons (wpAny_If (wpAny_isTrue_Compare1 ?_))
          refine g_lenE G.to S₁₁ (by k_is) (Subscript_ (Subscript_ (nmL S₁₁ e2 (nmL S₁₁ et (g_itemD S₁₁ (L2.le hb₅) hvwt fun tk => nmL S₁₁ rfl (g_item S₁₁ (Lwt.le hb₅) rfl hv1 (by omega) (g_len ((hLt.le hb₅).at S₁₁) (by omega) fun t tk => ?_)))))))
          refine g_lenE G.to S₁₁ (by k_is) (Subscript_ (Subscript_ (nmL S₁₁ e2 (nmL S₁₁ eh (g_itemD S₁₁ (L2.le hb₅) hvwe fun tk => nmL S₁₁ rfl (g_item S₁₁ (Lwe.le hb₅) rfl hv2 (by omega) (g_len ((hLe.le hb₅).at S₁₁) (by omega) fun t tk => ?_)))))))
          refine i_gt (wpAny_truthy_bool ?_)
          rw [n5, n6]
          by_cases hc2 : lt.length > le.length
          · rw [decide_eq_true (by omega)]
            refine wpAny_execs_cons (wpAny_AugAssign_Name (ldL S₁₁ el (Subscript_ (Subscript_ (nmL S₁₁ e3 (nmL S₁₁ rfl (g_item S₁₁ (L3.le hb₅) rfl hvb (by omega) (cInt fun t₈ tk₈ => g_itemT (i := 1) S₁₁ (hT.le hb₅) rfl rfl (by simp) ?_))))))))
            refine i_isub fun t tk => stL S₁₁ fun h₁₂ tk₁₂ S₁₂ => wpAny_execs_nil (wpAny_execs_nil (wpAny_execs_nil ?_))
            exact .next S₁₂ (Sn.Le.refl _) ⟨e1, e2, e3, e4, rfl, eh, et, eb, t, by rw [lostS_succ, hlost, voteK, if_neg hc, if_pos hc2, ← Int.sub_eq_add_neg]; rfl⟩
          · rw [decide_eq_false (by omega)]
            refine wpAny_execs_nil (wpAny_execs_nil (wpAny_execs_nil ?_))
            exact .next S₁₁ (Sn.Le.refl _) ⟨e1, e2, e3, e4, rfl, eh, et, eb, tl, by rw [lostS_succ, hlost, voteK, if_neg hc, if_neg hc2, Int.add_zero]; exact el⟩
      · rintro m₅ mu₅ b₅ h₁₁ tk₁₁ ⟨e1, e2, e3, e4, rfl, eh, et, eb, tl, el⟩ hb₅ S₁₁
        refine wpAny_execs_cons (wpAny_If (wpAny_isTrue_Compare1 (nmL S₁₁ el (cInt fun t tk => i_gt (wpAny_truthy_bool ?_)))))
        have hbt : beats ways B here there = decide (0 < lostS Wt We B B.length) := by unfold beats; rw [hWt, hWe]; rfl
        have lfin := l₄.trans hb₅
        by_cases hc : 0 < lostS Wt We B B.length
        · rw [decide_eq_true (by omega)]
          refine wpAny_execs_cons (wpAny_Assign_Name (Constant_bool (stL S₁₁ fun h₁₂ tk₁₂ S₁₂ => wpAny_execs_nil (wpAny_execs_nil ?_))))
          exact .next S₁₂ lfin ⟨e1, e2, e3, e4, rfl, eh, by rw [any_take_succ hthere, hbt, decide_eq_true hc, Bool.or_true]; rfl⟩
        · rw [decide_eq_false (by omega)]
          refine wpAny_execs_nil (wpAny_execs_nil ?_)
          exact .next S₁₁ lfin ⟨e1, e2, e3, e4, rfl, eh, by rw [any_take_succ hthere, hbt, decide_eq_false hc, Bool.or_false]; exact eb⟩
    · rintro m₃ mu₃ b₃ h₈ tk₈ ⟨e1, e2, e3, e4, rfl, eh, eb⟩ hb₃ S₈
      rw [n1, List.take_length] at eb
      refine wpAny_execs_cons (wpAny_If (isTrue_not (isTrue_plain (nmL S₈ eb (wpAny_truthy_bool ?_)))))
      have alk' : All2 (IsS b₃) ks _ := alk
      cases hc : names.any (beats ways B here) with
      | true =>
        refine wpAny_execs_nil (wpAny_execs_nil ?_)
        exact .next S₈ hb₃ ⟨e1, e2, e3, e4, ks, kk, rfl, by omega, by rw [filter_take_succ hhere, if_neg (by simp [hc]), List.append_nil]; exact alk'⟩
      | false =>
        refine wpAny_execs_cons (wpAny_Expr (MethodCall_ (nmL S₈ e4 (g_appM (o := lstO ks kk) S₈ (by simp) rfl rfl (callWith_method1 (spliced_cons (nmL S₈ eh (spliced_nil ?_))))))))
        refine g_app (mu1 := [(I, io₁)]) S₈ (by omega) fun k' h₉ S₉ => wpAny_execs_nil (wpAny_execs_nil ?_)
        exact .next S₉ hb₃ ⟨e1, e2, e3, e4, _, k', rfl, by simp; omega, by rw [filter_take_succ hhere, if_pos (by simp [hc])]; exact alk'.snoc ⟨th, rfl⟩⟩
  · rintro m₁ mu₁ b₁ h₅ tk₅ ⟨e1, e2, e3, e4, ks, kk, rfl, hks, alk⟩ hb S₅
    rw [n1, List.take_length] at alk
    obtain ⟨b₂, l₂, S₆, hDl⟩ := S₅.fzLst hD
    refine wpAny_execs_cons (wpAny_Return_some (nmL S₆ e4 ?_))
    exact .intro S₆ fun S' => q _ _ _ _ S₆.b0b S' ⟨D, ks, rfl, hDl, alk⟩
end
end Mine

end
section
open PySem PySem.W PyProof.Rows PySem.Calls PySem.Spec
set_option Elab.async false
set_option maxRecDepth 100000
set_option maxHeartbeats 1000000
set_option linter.unusedVariables false
namespace Mine
theorem filled7 : PySem.Challenge.rw_xo0020_01 = PySem.Challenge.rw_xo0020_01 ∧ Mine.hd.heap_39 = Mine.hd.heap_39 := by k_fill; exact ⟨rfl, rfl⟩

def gl (kvs : List (Str × Int)) (k : Str) : Int := (look kvs k).getD 0
def parS (n : Str) : Str := Txt.slice (reachP n) (some 1) none
def farL (len ins : List (Str × Int)) (ns : List Str) : List (Str × Int) := ns.map fun n => (n, gl len n * gl ins n)
def totStep (n0 : Str) (len ins : List (Str × Int)) (tot : List (Str × Int)) (n : Str) : List (Str × Int) := putL tot n (gl tot (parS n) + gl len n * (gl ins n0 - 2 * gl ins n))
def totalsL (n0 : Str) (ns : List Str) (len ins : List (Str × Int)) : List (Str × Int) := ns.foldl (totStep n0 len ins) [(n0, sumV (farL len ins ns))]

theorem nodup_take_ne {α : Type} {l : List α} (hnd : l.Nodup) {i : Nat} {a : α} (h : l[i]? = some a) : ∀ x ∈ l.take i, x ≠ a := by
  intro x hx e
  subst e
  obtain ⟨j, hj⟩ := List.getElem?_of_mem hx
  rw [List.getElem?_take] at hj
  split at hj
  · rename_i hji
    have hi' : j < l.length := (List.getElem?_eq_some_iff.mp hj).1
    have := (List.getElem?_inj hi' hnd).mp (hj.trans h.symm)
    omega
  · cases hj
theorem tot_mem {n0 : Str} {len ins : List (Str × Int)} : ∀ (ns : List Str) (t : List (Str × Int)) (k : Str), (look t k).isSome = true ∨ k ∈ ns → (look (ns.foldl (totStep n0 len ins) t) k).isSome = true
  | [], t, k, h => by simpa using h
  | n :: r, t, k, h => by
    rw [List.foldl_cons]
    refine tot_mem r _ k ?_
    rcases h with h | h
    · left
      unfold totStep
      rw [look_putL]
      split
      · rfl
      · exact h
    · rcases List.mem_cons.mp h with rfl | h
      · left
        unfold totStep
        rw [look_putL, if_pos rfl]; rfl
      · exact .inr h
theorem tot_len {n0 : Str} {len ins : List (Str × Int)} : ∀ (ns : List Str) (t : List (Str × Int)), (ns.foldl (totStep n0 len ins) t).length ≤ t.length + ns.length
  | [], t => by simp
  | n :: r, t => by
    rw [List.foldl_cons]
    have h1 := tot_len (n0 := n0) (len := len) (ins := ins) r (totStep n0 len ins t n)
    have h2 : (totStep n0 len ins t n).length ≤ t.length + 1 := putL_length _ _ _
    simp only [List.length_cons]
    omega

section
variable {prog : Program} {w : World} {A : Around} {E : Value → Shared → Prop} {C : Cx} {L : Addr} {b : Sn} {m mg mb : Str → Option Value} {mu : Mu}
  {h h' : Heap} {gs : Array GenState} {dr : Drawn} {tk : Nat} {os : OsState} {env : Env} {x : Str} {pos : Pos} {v : Value}

theorem glI {b : Sn} {es : List (Str × Value)} {kvs : List (Str × Int)} (al : All2 (fun p q => p.1 = q.1 ∧ IsI b p.2 q.2) es kvs) (k : Str) (t0 : Tok) : ∃ t, (valueAt es k).getD (.int 0 t0) = .int (gl kvs k) t := by
  cases e : look kvs k with
  | none => exact ⟨t0, by rw [(valueAt_look (k := k) al).1 e]; simp [gl, e]⟩
  | some y =>
    obtain ⟨v, hv, t, rfl⟩ := (valueAt_look (k := k) al).2 y e
    exact ⟨t, by rw [hv]; simp [gl, e]⟩

theorem totals_spec {v1 v2 v3 : Value} {n0 : Str} {ns : List Str} {len ins : List (Str × Int)} {Q : Value → Shared → Prop} (G : Glb w mg mb C.h₀) (hh : A.handled = none) (hd : A.depth + 6 < recursionLimit) (S : St C L b m mu h)
    (D1 : LsOf IsS b v1 (n0 :: ns)) (D2 : DcOf prog w IsI b v2 len) (D3 : DcOf prog w IsI b v3 ins) (hz : ns.length ≤ 1000) (hnd : ns.Nodup)
    (hp : ∀ i n, ns[i]? = some n → okH n = true ∧ parS n ∈ (n0 :: ns).take (i + 1)) (hl : ∀ n ∈ ns, ∃ l, look len n = some l ∧ -(2 ^ 64) < l ∧ l < 2 ^ 64)
    (q : ∀ r b' h' tk', b.Le b' → St C L b' m mu h' → DcOf prog w IsI b' r (totalsL n0 ns len ins) → Q r ⟨h', gs, dr, tk', os⟩) :
    wpAny (model prog w) A (call (.ref 207) [v1, v2, v3]) Q E ⟨h, gs, dr, tk, os⟩ := by
  obtain ⟨a1, vs1, rfl, L1, al1⟩ := D1
  obtain ⟨d2, es2, rfl, L2, al2⟩ := D2
  obtain ⟨d3, es3, rfl, L3, al3⟩ := D3
  have n1 := al1.length
  simp only [List.length_cons] at n1
  refine own_callC (binds := [("names", .ref a1), ("lengths", .ref d2), ("inside", .ref d3)]) (mv := []) (mr := mu) G S (by omega) (by k_is) (by k_is) (BindsTo.of_eq rfl) ?_
  intro L' h₁ tk₁ cells Y S₁
  have hY := CellsAre.two Y; obtain ⟨o1, o2, rfl, d1, dd2⟩ := hY; clear Y
  replace d1 : o1.data = .cell (some (.ref d3)) := d1
  replace dd2 : o2.data = .cell (some (.ref d2)) := dd2
  obtain ⟨b₁, l₁, S₂, c1⟩ := S₁.fzCell d1 (by simp)
  obtain ⟨b₂, l₂, S₃, c2⟩ := S₂.fzCell dd2 (by simp)
  replace c1 := c1.le l₂
  replace l₁ := l₁.trans l₂
  clear S₁ S₂ d1 dd2 l₂
  replace L1 := L1.le l₁
  replace L2 := L2.le l₁
  replace L3 := L3.le l₁
  obtain ⟨v0, hv0, t0, rfl⟩ := al1.get' (i := 0) (y := n0) rfl
  have hal1 : All2 (IsS b) (vs1.drop 1) ns := by simpa using al1.drop 1
  -- whole
  replace S₃ : St _ _ b₂ _ [] h₁ := S₃
  refine wpAny_execs_cons (wpAny_Assign_Name (MethodCall_ (nmC rfl (c1.at S₃) (g_getM S₃ L3 (callWith_method1 (spliced_cons ?_))))))
  refine Subscript_ (nmL S₃ rfl (cInt fun t tk => g_item (i := 0) S₃ L1 rfl hv0 (by omega) ?_))
  refine spliced_cons (cInt (k := 0) (pos := ⟨0, 0, 0, 0⟩) fun t2 tk2 => spliced_nil (g_getD S₃ L3 fun tk3 => ?_))
  obtain ⟨tw, htw⟩ := glI al3 n0 t2
  rw [htw]
  refine stL S₃ fun h₄ tk₄ S₄ => ?_
  clear S₃
  -- far
  refine wpAny_execs_cons (dcA (cl := _) (by with_unfolding_all rfl) (by with_unfolding_all rfl) rfl (by decide) ?_)
  refine g_lstFrom S₄ (nmL S₄ rfl (cInt fun t tk => ⟨_, _, _, _, _, 1, _, rfl, rfl, rfl, by omega, L1.at S₄, S₄, ?_⟩))
  intro D₁ h₅ tk₅ hD₁ S₅
  obtain ⟨b₃, l₃, S₆, LT⟩ := S₅.fzLst hD₁
  clear S₄ S₅
  refine it_listO (by exact hh) S₆ LT fun I io h₇ _ hI S₇ W₇ => ?_
  have htl : (vs1.drop 1).length = ns.length := by rw [List.length_drop]; omega
  refine dcG G.to S₇ (W₇ _ hh)
    (fun D Cc cells i m' mu' b' => ∃ o es, mu' = [(D, o)] ∧ o.IsDictOf (PySem.strKind prog w) es ∧ All2 (fun p q => p.1 = q.1 ∧ IsI b' p.2 q.2) es (farL len ins (ns.take i))) ?_ ?_ ?_
  · intro D Cc cells o hlo ho Y
    cases Y
    exact ⟨o, [], rfl, ho, .nil⟩
  · rintro D Cc cells i v io₁ m₁ mu₁ b₄ h₈ tk₈ hi hv - ⟨o, es, rfl, ho, al⟩ hb S₈ Er K k
    obtain ⟨nm, hnm, t, rfl⟩ := hal1.get hv
    have hnm' := List.mem_of_getElem? hnm
    obtain ⟨ln, hln, hb1, hb2⟩ := hl nm hnm'
    obtain ⟨vl, hvl, tl, rfl⟩ := (valueAt_look (k := nm) al2).2 _ hln
    have lb := l₃.trans hb
    refine wpAny_assign_Name (stL S₈ fun h₉ tk₉ S₉ => ?_)
    refine wpAny_pure (a := true) ?_
    rw [if_pos rfl]
    refine nmL S₉ rfl ?_
    refine Call_ (nmG G.to S₉ (by k_is) (callWith_K (Glb.at (C := ⟨C.h₀, b₃, _, [I]⟩) G S₉) (by k_is) (spliced_cons ?_)))
    refine Subscript_ (nmC rfl ((c2.le lb).at S₉) (nmL S₉ rfl (g_itemD S₉ (L2.le lb) hvl fun tk₁₀ => ?_)))
    refine spliced_cons (MethodCall_ (nmC rfl ((c1.le lb).at S₉) (g_getM S₉ (L3.le lb) (callWith_method1 (spliced_cons ?_)))))
    refine nmL S₉ rfl (spliced_cons (cInt (k := 0) (pos := ⟨0, 0, 0, 0⟩) fun t2 tk2 => spliced_nil (g_getD S₉ (L3.le lb) fun tk3 => ?_)))
    obtain ⟨ti, hti⟩ := glI al3 nm t2
    rw [hti]
    refine spliced_nil ⟨Glb.at (C := ⟨C.h₀, b₃, _, [I]⟩) G S₉, mul_spec G.to (by show A.depth + 1 + 2 < _; omega) S₉ ⟨hb1, hb2⟩ fun b₅ h₁₀ t₃ tk₁₁ l₅ S₁₀ => ?_⟩
    refine g_dset (mu1 := [(I, io₁)]) S₁₀ ho (by rw [al.length, sizeLine_eq]; simp [farL]; omega) fun o' h₁₁ tk₁₂ ho' S₁₁ => ?_
    refine k _ _ _ _ _ l₅ S₁₁ ⟨o', _, rfl, ho', ?_⟩
    have e1 : farL len ins (ns.take (i + 1)) = putL (farL len ins (ns.take i)) nm (ln * gl ins nm) := by
      rw [putL_new, List.take_add_one, hnm]
      · simp [farL, gl, hln]
      · intro p hp e
        obtain ⟨n', hn', rfl⟩ := List.mem_map.mp hp
        exact nodup_take_ne hnd hnm n' hn' e
    rw [e1]
    exact All2.stored al ⟨t₃, rfl⟩
  · rintro D Cc cells m₁ mu₁ b₄ io₁ h' h₈ tk₈ hlo ⟨o, es, rfl, ho, al⟩ hb S₈ k₁
    rw [htl, List.take_length] at al
    refine post_local S₇ hI S₈ k₁ fun h₉ tk₉ hDp S₉ => ?_
    clear S₈ S₆ S₇ k₁ W₇
    obtain ⟨b₅, l₅, S₁₀, LF⟩ := S₉.fzDic hlo ho hDp
    clear S₉
    have lb : b₂.Le b₅ := l₃.trans (hb.trans l₅)
    replace L1 := L1.le lb
    replace L2 := L2.le lb
    replace L3 := L3.le lb
    replace c1 := c1.le lb
    replace c2 := c2.le lb
    replace LT := LT.le (hb.trans l₅)
    refine wpAny_execs_cons (wpAny_Assign_Name (g_dict1 G.to S₁₀ fun D₂ o₂ h₁₁ hD₂ hlo₂ ho₂ S₁₁ => ?_))
    refine Subscript_ (nmL S₁₁ rfl (cInt fun t tk => g_item (i := 0) S₁₁ L1 rfl hv0 (by omega) ?_))
    refine Call_ (nmG G.to S₁₁ (by k_is) (callWith_K (Glb.at (C := ⟨C.h₀, b, h, _⟩) G S₁₁) (by k_is) (spliced_cons (nmL S₁₁ rfl (spliced_nil ⟨Glb.at (C := ⟨C.h₀, b, h, _⟩) G S₁₁, ?_⟩)))))
    refine count_calls_spec G.to (by exact hh) (by show A.depth + 1 + 2 < _; omega) S₁₁ ⟨D, es, rfl, LF, al⟩ fun b₆ h₁₂ t₃ tk₁₂ l₆ S₁₂ => ?_
    refine ⟨_, _, _, _, _, rfl, rfl, S₁₂, fun o' h₁₃ tk₁₃ ho' S₁₃ => stL S₁₃ fun h₁₄ tk₁₄ S₁₄ => ?_⟩
    clear S₁₀ S₁₁ S₁₂ S₁₃
    replace L1 := L1.le l₆
    replace L2 := L2.le l₆
    replace L3 := L3.le l₆
    replace c1 := c1.le l₆
    replace c2 := c2.le l₆
    refine wpAny_execs_cons (wpAny_For (g_lstFrom S₁₄ (nmL S₁₄ rfl (cInt fun t tk => ⟨_, _, _, _, _, 1, _, rfl, rfl, rfl, by omega, L1.at S₁₄, S₁₄, ?_⟩))))
    intro D₃ h₁₅ tk₁₅ hD₃ S₁₅
    obtain ⟨b₇, l₇, S₁₆, LT₂⟩ := S₁₅.fzLst hD₃
    clear S₁₅ S₁₄
    replace L1 := L1.le l₇
    replace L2 := L2.le l₇
    replace L3 := L3.le l₇
    replace c1 := c1.le l₇
    replace c2 := c2.le l₇
    refine it_list (by exact hh) S₁₆ LT₂ fun I₂ io₂ h₁₇ _ hI₂ S₁₇ W₁₇ => ?_
    refine for_it (W₁₇ _ hh) S₁₇ hI₂ (fun i m' mu' b' => m' "totals" = some (.ref D₂) ∧ m' "whole" = some (.int (gl ins n0) tw) ∧ ∃ o es, mu' = [(D₂, o)] ∧ o.IsDictOf (PySem.strKind prog w) es ∧
      All2 (fun p q => p.1 = q.1 ∧ IsI b' p.2 q.2) es ((ns.take i).foldl (totStep n0 len ins) [(n0, sumV (farL len ins ns))])) ⟨rfl, rfl, o', _, rfl, ho', .cons ⟨rfl, t₃, rfl⟩ .nil⟩ ?_ ?_
    · rintro i v io₃ m₃ mu₃ b₈ h₁₈ tk₁₈ hi hv ⟨e1, e2, o₄, es₄, rfl, ho₄, al₄⟩ hb₈ S₁₈
      obtain ⟨nm, hnm, t, rfl⟩ := hal1.get hv
      have hnm' := List.mem_of_getElem? hnm
      obtain ⟨ln, hln, hb1, hb2⟩ := hl nm hnm'
      obtain ⟨vl, hvl, tl, rfl⟩ := (valueAt_look (k := nm) al2).2 _ hln
      obtain ⟨hok, hpar⟩ := hp i nm hnm
      -- more
      refine wpAny_execs_cons (wpAny_Assign_Name (Call_ (nmG G.to S₁₈ (by k_is) (callWith_K (Glb.at (C := ⟨C.h₀, b, h, _⟩) G S₁₈) (by k_is) (spliced_cons (nmL S₁₈ e2 (spliced_cons ?_)))))))
      refine Call_ (nmG G.to S₁₈ (by k_is) (callWith_K (Glb.at (C := ⟨C.h₀, b, h, _⟩) G S₁₈) (by k_is) (spliced_cons (cInt (k := 0) (pos := ⟨0, 0, 0, 0⟩) fun t2 tk2 => spliced_cons ?_))))
      refine MethodCall_ (nmC rfl ((c1.le hb₈).at S₁₈) (g_getM S₁₈ (L3.le hb₈) (callWith_method1 (spliced_cons ?_))))
      refine nmL S₁₈ rfl (spliced_cons (cInt (k := 0) (pos := ⟨0, 0, 0, 0⟩) fun t3 tk3 => spliced_nil (g_getD S₁₈ (L3.le hb₈) fun tk3 => ?_)))
      obtain ⟨ti, hti⟩ := glI al3 nm t3
      rw [hti]
      refine spliced_nil ⟨Glb.at (C := ⟨C.h₀, b, h, _⟩) G S₁₈, mul_spec G.to (by show A.depth + 1 + 2 < _; omega) S₁₈ (by decide) fun b₉ h₁₉ t₄ tk₁₉ l₉ S₁₉ => spliced_nil ⟨Glb.at (C := ⟨C.h₀, b, h, _⟩) G S₁₉, ?_⟩⟩
      refine sub_spec G.to (by show A.depth + 1 + 2 < _; omega) S₁₉ fun b₁₀ h₂₀ t₅ tk₂₀ l₁₀ S₂₀ => stL S₂₀ fun h₂₁ tk₂₁ S₂₁ => ?_
      clear S₁₈ S₁₉ S₂₀
      have hb₁₀ := hb₈.trans (l₉.trans l₁₀)
      -- the store
      refine wpAny_execs_cons (wpAny_Assign_Subscript ?_)
      refine Call_ (nmG G.to S₂₁ (by k_is) (callWith_K (Glb.at (C := ⟨C.h₀, b, h, _⟩) G S₂₁) (by k_is) (spliced_cons (Subscript_ (nmL S₂₁ e1 ?_)))))
      refine g_strFrom S₂₁ (Call_ (nmG G.to S₂₁ (by k_is) (callWith_K (Glb.at (C := ⟨C.h₀, b, h, _⟩) G S₂₁) (by k_is) (spliced_cons (nmL S₂₁ rfl (spliced_nil ⟨Glb.at (C := ⟨C.h₀, b, h, _⟩) G S₂₁, ?_⟩)))))) 
      refine reach_spec G.to (by show A.depth + 1 + 4 < _; omega) S₂₁ hok fun b₁₁ h₂₂ t₆ tk₂₂ l₁₁ S₂₂ => ?_
      have hzr : (reachP nm).length ≤ 100000 := by
        have hzn : nm.length ≤ 1000 := by
          unfold okH at hok
          simp only [Bool.and_eq_true, decide_eq_true_eq] at hok
          exact hok.1.1.2.2
        unfold reachP
        have hs : ∀ i, (Txt.slice nm (some i) none).length ≤ 1000 := fun i => Nat.le_trans (Txt.slice_le _ _ _) hzn
        split
        · split
          · have e : ∀ y : Str, (("." : Str) ++ y).length = 1 + y.length := fun y => Str.length_append _ _
            have := hs (Txt.find nm "." + 1)
            rw [e]
            omega
          · omega
        · omega
      refine cInt fun t7 tk7 => ⟨_, _, _, _, _, _, _, rfl, rfl, rfl, hzr, S₂₂, fun h₂₃ t₈ tk₂₃ S₂₃ => ?_⟩
      have al₅ : All2 (fun p q => p.1 = q.1 ∧ IsI b₈ p.2 q.2) es₄ ((ns.take i).foldl (totStep n0 len ins) [(n0, sumV (farL len ins ns))]) := al₄
      have hsome : (look ((ns.take i).foldl (totStep n0 len ins) [(n0, sumV (farL len ins ns))]) (parS nm)).isSome = true := by
        refine tot_mem _ _ _ ?_
        rw [List.take_succ_cons] at hpar
        rcases List.mem_cons.mp hpar with e | e
        · left; rw [e, look_cons]; simp
        · exact .inr e
      obtain ⟨y, hy⟩ := Option.isSome_iff_exists.mp hsome
      obtain ⟨vy, hvy, ty, rfl⟩ := (valueAt_look (k := parS nm) al₅).2 y hy
      have lb₁ := hb₁₀.trans l₁₁
      refine g_subMu (o := o₄) S₂₃ (by simp) ho₄ hvy fun tk => ?_
      refine spliced_cons (Call_ (nmG G.to S₂₃ (by k_is) (callWith_K (Glb.at (C := ⟨C.h₀, b, h, _⟩) G S₂₃) (by k_is) (spliced_cons ?_))))
      refine Subscript_ (nmC rfl ((c2.le lb₁).at S₂₃) (nmL S₂₃ rfl (g_itemD S₂₃ (L2.le lb₁) hvl fun tk₁₀ => ?_)))
      refine spliced_cons (nmL S₂₃ rfl (spliced_nil ⟨Glb.at (C := ⟨C.h₀, b, h, _⟩) G S₂₃, ?_⟩))
      refine mul_spec G.to (by show A.depth + 1 + 2 < _; omega) S₂₃ ⟨hb1, hb2⟩ fun b₁₂ h₂₄ t₉ tk₂₄ l₁₂ S₂₄ => spliced_nil ⟨Glb.at (C := ⟨C.h₀, b, h, _⟩) G S₂₄, ?_⟩
      refine add_spec G.to (by show A.depth + 1 + 2 < _; omega) S₂₄ fun b₁₃ h₂₅ t₁₀ tk₂₅ l₁₃ S₂₅ => ?_
      refine nmL S₂₅ e1 (nmL S₂₅ rfl ?_)
      have hlen₄ : es₄.length ≤ 1001 := by
        have e3 := al₅.length
        have e4 := tot_len (n0 := n0) (len := len) (ins := ins) (ns.take i) [(n0, sumV (farL len ins ns))]
        have e5 : (ns.take i).length ≤ ns.length := by rw [List.length_take]; omega
        simp only [List.length_singleton] at e4
        omega
      refine g_setD1 S₂₅ ho₄ (by rw [sizeLine_eq]; omega) fun o₅ h₂₆ tk₂₆ ho₅ S₂₆ => ?_
      refine wpAny_execs_nil (.next S₂₆ (l₉.trans (l₁₀.trans (l₁₁.trans (l₁₂.trans l₁₃)))) ⟨e1, e2, o₅, _, rfl, ho₅, ?_⟩)
      have e6 : (ns.take (i + 1)).foldl (totStep n0 len ins) [(n0, sumV (farL len ins ns))] = putL ((ns.take i).foldl (totStep n0 len ins) [(n0, sumV (farL len ins ns))]) nm (y + ln * (gl ins n0 - 2 * gl ins nm)) := by
        rw [List.take_add_one, hnm, List.foldl_append]
        simp [totStep, gl, hy, hln]
      rw [e6]
      exact All2.stored al₅ ⟨t₁₀, rfl⟩
    · rintro m₃ mu₃ b₈ h₁₈ tk₁₈ ⟨e1, e2, o₄, es₄, rfl, ho₄, al₄⟩ hb₈ S₁₈
      rw [htl, List.take_length] at al₄
      obtain ⟨b₉, l₉, S₁₉, LTo⟩ := S₁₈.fzDic hlo₂ ho₄ hD₂
      refine wpAny_execs_cons (wpAny_Return_some (nmL S₁₉ e1 ?_))
      exact .intro S₁₉ fun S' => q _ _ _ _ S₁₉.b0b S' ⟨D₂, es₄, rfl, LTo, al₄⟩
end
end Mine

end
section
open PySem PySem.W PyProof.Rows PySem.Calls PySem.Spec
set_option Elab.async false
set_option maxRecDepth 100000
set_option maxHeartbeats 1000000
set_option linter.unusedVariables false
namespace Mine
theorem filled8 : PySem.Challenge.rw_xo0020_01 = PySem.Challenge.rw_xo0020_01 ∧ Mine.hd.heap_39 = Mine.hd.heap_39 := by k_fill; exact ⟨rfl, rfl⟩

def chS (c : Nat) : Str := ⟨#[c]⟩
def Chs (vs : List Value) (rest : List Nat) : Prop := StrsAre vs (rest.reverse.map chS)
def LexD (o : Obj) (st pb : Addr) (line : Int) : Prop := ∃ t1 t2, InD o [("lineno", .int line t1), ("instream", .ref st), ("whitespace", .str "\n\t\r " t2), ("pushback", .ref pb)]
def ReadOk (prog : Program) (w : World) (mg mb : Str → Option Value) (b : Sn) (fr lf : Addr) : Prop :=
  ∀ (A : Around) (E : Value → Shared → Prop) (C : Cx) (L : Addr) (b' : Sn) (m : Str → Option Value) (mr : Mu) (h : Heap) (gs : Array GenState) (dr : Drawn) (tk : Nat) (os : OsState) (vs : List Value) (k : Nat) (rest : List Nat) (t : Tok) (Q : Value → Shared → Prop),
    b.Le b' → Glb w mg mb C.h₀ → A.depth + 3 < recursionLimit → St C L b' m ((lf, lstO vs k) :: mr) h → Chs vs rest → rest.length ≤ 100000 →
    (rest = [] → ∀ b'' h' t' tk', b'.Le b'' → St C L b'' m ((lf, lstO vs k) :: mr) h' → Q (.str "" t') ⟨h', gs, dr, tk', os⟩) →
    (∀ c r, rest = c :: r → ∀ b'' h' t' tk' vs' k', b'.Le b'' → Chs vs' r → St C L b'' m ((lf, lstO vs' k') :: mr) h' → Q (.str (chS c) t') ⟨h', gs, dr, tk', os⟩) →
    wpAny (model prog w) A (call (.ref fr) [.int 1 t]) Q E ⟨h, gs, dr, tk, os⟩
structure LexK (prog : Program) (w : World) (mg mb : Str → Option Value) (b : Sn) (lx dl lf pb st : Addr) : Prop where
  inst : b lx = some (instObj 130 dl)
  strm : ∃ ds od fs fr, b st = some (instObj 130 ds) ∧ b ds = some od ∧ InD od fs ∧ look fs "read" = some (.ref fr) ∧ (∃ oc odd fd sl, b fr = some ⟨oc, odd, .func fd, sl⟩) ∧ ReadOk prog w mg mb b fr lf
theorem LexK.le {prog : Program} {w : World} {mg mb : Str → Option Value} {b b' : Sn} {lx dl lf pb st : Addr} (K : LexK prog w mg mb b lx dl lf pb st) (l : b.Le b') : LexK prog w mg mb b' lx dl lf pb st := by
  obtain ⟨i, ds, od, fs, fr, e1, e2, e3, e4, ⟨oc, odd, fd, sl, e5⟩, e6⟩ := K
  exact ⟨l _ _ i, ds, od, fs, fr, l _ _ e1, l _ _ e2, e3, e4, ⟨oc, odd, fd, sl, l _ _ e5⟩, fun A E C L b'' m mr h gs dr tk os vs k rest t Q l2 => e6 A E C L b'' m mr h gs dr tk os vs k rest t Q (l.trans l2)⟩
def nl (c : Nat) : Int := if c = 10 then 1 else 0
theorem chS_inj {c d : Nat} (h : chS c = chS d) : c = d := by
  have : (chS c).cps = (chS d).cps := by rw [h]
  simpa [chS] using this
theorem chS_eq {c d : Nat} {s : Str} (hs : s = chS d) : (chS c == s) = decide (c = d) := by
  subst hs
  by_cases h : c = d
  · subst h; simp
  · rw [decide_eq_false h]; exact beq_eq_false_iff_ne.mpr fun e => h (chS_inj e)

section
variable {prog : Program} {w : World} {A : Around} {E : Value → Shared → Prop} {C : Cx} {L : Addr} {b : Sn} {m mg mb : Str → Option Value} {mu mr : Mu}
  {h h' : Heap} {gs : Array GenState} {dr : Drawn} {tk : Nat} {os : OsState} {env : Env} {x : Str} {pos : Pos} {v : Value}

theorem read_char_code {lx dl lf pb st : Addr} {od : Obj} {vs : List Value} {k : Nat} {rest : List Nat} {line : Int} {Q : Value → Shared → Prop} (G : Glb w mg mb C.h₀) (hd : A.depth + 5 < recursionLimit)
    (S : St C L b m ((dl, od) :: (lf, lstO vs k) :: mr) h) (K : LexK prog w mg mb b lx dl lf pb st) (hD : LexD od st pb line) (hv : Chs vs rest) (hz : rest.length ≤ 100000)
    (q0 : rest = [] → ∀ b' h' t' tk', b.Le b' → St C L b' m ((dl, od) :: (lf, lstO vs k) :: mr) h' → Q (.str "" t') ⟨h', gs, dr, tk', os⟩)
    (q1 : ∀ c r, rest = c :: r → ∀ b' h' t' tk' od' vs' k', b.Le b' → LexD od' st pb (line + nl c) → Chs vs' r → St C L b' m ((dl, od') :: (lf, lstO vs' k') :: mr) h' → Q (.str (chS c) t') ⟨h', gs, dr, tk', os⟩) :
    codeAny (model prog w) A (.call (.ref 113) ⟨[.ref lx], []⟩) (rOf Q E) ⟨h, gs, dr, tk, os⟩ := by
  refine own_code (binds := [("self", .ref lx)]) (mv := [(dl, od), (lf, lstO vs k)]) (mr := mr) G S (by omega) (by k_is) (by k_is) (BindsTo.of_eq rfl) ?_
  intro L' h₁ tk₁ S₁
  obtain ⟨inst, ds, ods, fs, fr, e1, e2, e3, e4, ⟨oc, odd, fd, sl, e5⟩, hread⟩ := K
  obtain ⟨t1, t2, hI⟩ := hD
  have X := Glb.at (C := ⟨C.h₀, b, h, _⟩) G S₁
  refine wpAny_execs_cons (wpAny_Assign_Name (MethodCall_ (Attribute_any_ (nmL S₁ rfl (a_get X (S₁.bin _ _ inst) (S₁.muin (dl, od) (by simp)) hI (by k_is) (by k_is) (by k_is) (by k_is) rfl rfl fun tk₂ => ?_)))))
  refine a_own X (S₁.bin _ _ e1) (S₁.bin _ _ e2) e3 (by k_is) (by k_is) (by k_is) (by k_is) e4 rfl fun tk₃ => ?_
  refine callWith_F ⟨_, _, _, _, S₁.bin _ _ e5⟩ (spliced_cons (cInt (k := 0) (pos := ⟨0, 0, 0, 0⟩) fun t tk₄ => spliced_nil ⟨⟨_, _, _, _, S₁.bin _ _ e5⟩, ?_⟩))
  refine hread _ _ _ _ b _ [(dl, od)] _ _ _ _ _ vs k rest _ _ (Sn.Le.refl _) G.to (by show A.depth + 1 + 3 < _; omega) (S₁.perm (List.Perm.swap ..)) hv hz ?_ ?_
  · intro hr b₂ h₂ t' tk₅ l₂ S₂
    replace S₂ := S₂.perm (List.Perm.swap ..)
    refine stL S₂ fun h₃ tk₆ S₃ => ?_
    refine wpAny_execs_cons (wpAny_If (wpAny_isTrue_Compare1 (nmL S₃ rfl (cStr fun t tk => PyProof.Rows.eq_str (wpAny_truthy_bool ?_)))))
    refine wpAny_execs_nil (wpAny_execs_cons (wpAny_Return_some (nmL S₃ rfl ?_)))
    exact .intro S₃ fun S' => q0 hr _ _ _ _ S₃.b0b S'
  · intro c r hr b₂ h₂ t' tk₅ vs' k' l₂ hv' S₂
    replace S₂ := S₂.perm (List.Perm.swap ..)
    refine stL S₂ fun h₃ tk₆ S₃ => ?_
    refine wpAny_execs_cons (wpAny_If (wpAny_isTrue_Compare1 (nmL S₃ rfl (cStr fun t tk => PyProof.Rows.eq_str (wpAny_truthy_bool ?_)))))
    rw [chS_eq (d := 10) (by decide)]
    by_cases hc : c = 10
    · rw [decide_eq_true hc]
      have X₃ := Glb.at (C := ⟨C.h₀, b, h, _⟩) G S₃
      refine wpAny_execs_cons (wpAny_AugAssign_AttributeAny (nmL S₃ rfl (a_get X₃ (S₃.bin _ _ (l₂ _ _ inst)) (S₃.muin (dl, od) (by simp)) hI (by k_is) (by k_is) (by k_is) (by k_is) rfl rfl fun tk₂ => cInt fun t3 tk3 => i_iadd fun t4 tk4 => ?_)))
      refine a_set (mu1 := []) G.to S₃ (S₃.bin _ _ (l₂ _ _ inst)) hI (by simp) (by k_is) (by k_is) (by k_is) (by k_is) fun o' h' tk' ho' S' => ?_
      refine wpAny_execs_nil (wpAny_execs_cons (wpAny_Return_some (nmL S' rfl ?_)))
      refine .intro S' fun S'' => q1 c r hr _ _ _ _ o' vs' k' S'.b0b ⟨t4, t2, ?_⟩ hv' S''
      unfold nl
      rw [if_pos hc]
      exact ho'
    · rw [decide_eq_false hc]
      refine wpAny_execs_nil (wpAny_execs_cons (wpAny_Return_some (nmL S₃ rfl ?_)))
      refine .intro S₃ fun S'' => q1 c r hr _ _ _ _ od vs' k' S₃.b0b ⟨t1, t2, ?_⟩ hv' S''
      unfold nl
      rw [if_neg hc, Int.add_zero]
      exact hI
end
end Mine

end
section
open PySem PySem.W PyProof.Rows PySem.Calls PySem.Spec
set_option Elab.async false
set_option maxRecDepth 100000
set_option maxHeartbeats 1000000
set_option linter.unusedVariables false
namespace Mine
theorem filled10 : PySem.Challenge.rw_xo0020_01 = PySem.Challenge.rw_xo0020_01 ∧ Mine.hd.heap_39 = Mine.hd.heap_39 := by k_fill; exact ⟨rfl, rfl⟩
def cnt (rest : List Nat) : Int := (rest.map nl).sum
theorem cnt_cons (c : Nat) (r : List Nat) : cnt (c :: r) = nl c + cnt r := by simp [cnt]
structure Lx where
  C : Cx
  L : Addr
  I : Addr
  M : Addr
  t : Tok
  dl : Addr
  lf : Addr
  pb : Addr
  st : Addr
  lx : Addr
  mr : Mu
  tot : Int
def liveO (Y : Lx) (live : Bool) : Obj := if live = true then ciO (.ref Y.M) (.str "" Y.t) (.bool false) else ciO .none .none (.bool true)
inductive LxSt (Y : Lx) (gs : Array GenState) (dr : Drawn) (os : OsState) (live : Bool) (rest : List Nat) (m : Str → Option Value) (b : Sn) (s' : Shared) : Prop
  | mk (h' : Heap) (tk' : Nat) (od : Obj) (vs : List Value) (k : Nat) (line : Int) (e : s' = ⟨h', gs, dr, tk', os⟩) (S : St Y.C Y.L b m ((Y.I, liveO Y live) :: (Y.dl, od) :: (Y.lf, lstO vs k) :: Y.mr) h')
    (hD : LexD od Y.st Y.pb line) (hv : Chs vs rest) (hc : line + cnt rest = Y.tot) (hz : rest.length ≤ 100000) : LxSt Y gs dr os live rest m b s'
inductive LxGo (Y : Lx) (gs : Array GenState) (dr : Drawn) (os : OsState) (J : Bool → List Nat → (Str → Option Value) → Prop) (b₁ : Sn) (r : List Nat) (s' : Shared) : Prop
  | mk (live' : Bool) (r' : List Nat) (m₂ : Str → Option Value) (b₂ : Sn) (l : b₁.Le b₂) (hl : r'.length ≤ r.length) (S : LxSt Y gs dr os live' r' m₂ b₂ s') (hJ : J live' r' m₂) : LxGo Y gs dr os J b₁ r s'
def LxPost (Y : Lx) (gs : Array GenState) (dr : Drawn) (os : OsState) (J : Bool → List Nat → (Str → Option Value) → Prop) (b₁ : Sn) (r : List Nat) (Q : Flow → Shared → Prop) (fl : Flow) (s' : Shared) : Prop :=
  match fl with | .ret v => Q (.ret v) s' | .brk => Q .next s' | _ => LxGo Y gs dr os J b₁ r s'
theorem p3 {α : Type} (a b c : α) (r : List α) : (a :: b :: c :: r).Perm (b :: c :: a :: r) := (List.Perm.swap b a (c :: r)).trans (.cons b (List.Perm.swap c a r))
theorem p3' {α : Type} (a b c : α) (r : List α) : (b :: c :: a :: r).Perm (a :: b :: c :: r) := (p3 a b c r).symm

section
variable {prog : Program} {w : World} {A : Around} {E : Value → Shared → Prop} {C : Cx} {L : Addr} {b b0 : Sn} {m mg mb : Str → Option Value} {mu mr : Mu}
  {h h' : Heap} {gs : Array GenState} {dr : Drawn} {tk : Nat} {os : OsState} {env : Env} {x : Str} {pos : Pos} {v : Value} {Y : Lx} {rest : List Nat} {s : Shared} {live : Bool}

theorem lx_char {Q : Option Value → Shared → Prop} (G : Glb w mg mb Y.C.h₀) (hh : A.handled = none) (hd : A.depth + 5 < recursionLimit) (S : LxSt Y gs dr os true rest m b s) (K : LexK prog w mg mb b Y.lx Y.dl Y.lf Y.pb Y.st) (hM : b Y.M = some (methodObj (.ref 113) (.ref Y.lx)))
    (q0 : rest = [] → ∀ b' s', b.Le b' → LxSt Y gs dr os false [] m b' s' → Q none s')
    (q1 : ∀ c r, rest = c :: r → ∀ b' s' t', b.Le b' → LxSt Y gs dr os true r m b' s' → Q (some (.str (chS c) t')) s') :
    wpAny (model prog w) A (pyNext (.ref Y.I)) Q E s := by
  obtain ⟨h, tk, od, vs, k, line, rfl, S, hD, hv, hc, hz⟩ := S
  refine ci_live (mu1 := []) (f := 113) hh S hM ⟨_, _, _, _, G.X 113 _ (by k_is)⟩ ?_
  refine read_char_code G (by show A.depth + 5 < _; omega) (S.perm (p3 ..)) K hD hv hz ?_ ?_
  · rintro hr b' h' t' tk' l S'
    refine ⟨_, _, h', tk', b', [], _, rfl, rfl, l, S'.perm (p3' ..), fun e => absurd rfl e, fun _ h₂ S₂ => q0 hr b' _ l ⟨h₂, tk', od, vs, k, line, rfl, S₂, hD, hr ▸ hv, by rw [← hr]; exact hc, by simp⟩⟩
  · rintro c r hr b' h' t' tk' od' vs' k' l hD' hv' S'
    subst hr
    refine ⟨_, _, h', tk', b', [], _, rfl, rfl, l, S'.perm (p3' ..), fun _ => q1 c r rfl b' _ t' l ⟨h', tk', od', vs', k', line + nl c, rfl, S'.perm (p3' ..), hD', hv', by rw [cnt_cons] at hc; omega, by simp at hz; omega⟩, fun e => absurd e (by
      intro e
      have : (chS c).cps.size = ("" : Str).cps.size := by rw [e]
      exact absurd this (by show (1 : Nat) ≠ 0; decide))⟩

theorem lx_dead {Q : Option Value → Shared → Prop} (hh : A.handled = none) (S : LxSt Y gs dr os false rest m b s) (q0 : ∀ s', LxSt Y gs dr os false rest m b s' → Q none s') :
    wpAny (model prog w) A (pyNext (.ref Y.I)) Q E s := by
  obtain ⟨h, tk, od, vs, k, line, rfl, S, hD, hv, hc, hz⟩ := S
  exact ci_dead hh S (by simp [liveO]) fun h₂ S₂ => q0 _ ⟨h₂, tk, od, vs, k, line, rfl, S₂, hD, hv, hc, hz⟩

theorem ci_for {Q : Flow → Shared → Prop} {px : Pos} {body : List Stmt} (G : Glb w mg mb Y.C.h₀) (hh : A.handled = none) (hd : A.depth + 5 < recursionLimit) (hl : Y.L = env.locals) (K : LexK prog w mg mb b0 Y.lx Y.dl Y.lf Y.pb Y.st) (hM : b0 Y.M = some (methodObj (.ref 113) (.ref Y.lx)))
    (J : Bool → List Nat → (Str → Option Value) → Prop) (hb : b0.Le b) (S : LxSt Y gs dr os live rest m b s) (h0 : J live rest m)
    (turn : ∀ c r t m₁ b₁ s₁, b0.Le b₁ → J true (c :: r) m₁ → LxSt Y gs dr os true r (upd m₁ x (.str (chS c) t)) b₁ s₁ →
      wpAny (model prog w) A (execs body env) (LxPost Y gs dr os J b₁ r Q) NE s₁)
    (done : ∀ rest' m₁ b₁ s₁, b0.Le b₁ → LxSt Y gs dr os false rest' m₁ b₁ s₁ → (J true rest' m₁ ∧ rest' = []) ∨ J false rest' m₁ → Q .next s₁)
    (hx : env.kindOf x = some .local := by rfl) (hp : (env.scope.kind == .class || (env.scope.kind == .module && env.locals != env.globals)) = false := by rfl) :
    codeAny (model prog w) A (.forLoop (.Name x px) (.ref Y.I) body [] env) (forR prog w A env E Q) s := by
  refine codeAny_forLoop_any
    (fun n s' => ∃ live rest m b, b0.Le b ∧ LxSt Y gs dr os live rest m b s' ∧ J live rest m ∧ n = if live = true then rest.length + 1 else 0) ?_ _ ⟨live, rest, m, b, hb, S, h0, rfl⟩
  rintro n s' ⟨live, rest, m, b, hb, S, hJ, rfl⟩
  cases live with
  | false => exact lx_dead hh S fun s' S' => wpAny_execs_nil (done rest m b s' hb S' (.inr hJ))
  | true =>
    refine lx_char G hh hd S (K.le hb) (hb _ _ hM) ?_ ?_
    · rintro rfl b' s' l S'
      exact wpAny_execs_nil (done [] m b' s' (hb.trans l) S' (.inl ⟨hJ, rfl⟩))
    · rintro c r rfl b' s' t' l S'
      obtain ⟨h, tk, od, vs, k, line, rfl, S', hD, hv, hc, hz⟩ := S'
      show wpAny _ A (pure ()) _ _ _
      rw [hl] at S'
      refine wpAny_pure (wpAny_assign_Name (stL S' (fun h₂ tk₂ S₂ => ?_) hx hp))
      rw [← hl] at S₂
      refine wpAny_mono (turn c r t' m b' _ (hb.trans l) hJ ⟨h₂, tk₂, od, vs, k, line, rfl, S₂, hD, hv, hc, hz⟩) (fun fl s₃ he => ?_) fun _ _ e => e.elim
      have fin : LxGo Y gs dr os J b' r s₃ →
          ∃ m, m < (if true = true then (c :: r).length + 1 else 0) ∧ ∃ live rest m' b, b0.Le b ∧ LxSt Y gs dr os live rest m' b s₃ ∧ J live rest m' ∧ m = if live = true then rest.length + 1 else 0 := by
        rintro ⟨live', r', m₂, b₂, l₂, hlen, S₃, J₃⟩
        refine ⟨if live' = true then r'.length + 1 else 0, ?_, live', r', m₂, b₂, (hb.trans l).trans l₂, S₃, J₃, rfl⟩
        simp only [if_true, List.length_cons]
        split <;> omega
      cases fl with
      | ret v => exact he
      | brk => exact he
      | next => exact fin he
      | cont => exact fin he
end
end Mine

end
section
open PySem PySem.W PyProof.Rows PySem.Calls PySem.Spec
set_option Elab.async false
set_option maxRecDepth 100000
set_option maxHeartbeats 1000000
set_option linter.unusedVariables false
namespace Mine
open PySem.Builtin PySem.Builtin.Str
theorem filled11 : PySem.Challenge.rw_xo0020_01 = PySem.Challenge.rw_xo0020_01 ∧ Mine.hd.heap_39 = Mine.hd.heap_39 := by k_fill; exact ⟨rfl, rfl⟩

def isWs (c : Nat) : Bool := Txt.contains "\n\t\r " (chS c)
def lexQ : Str → List Nat → Str × List Nat
  | tok, [] => (tok, [])
  | tok, c :: r => if c = 34 then (tok, r) else if c = 92 then (match r with | [] => (tok ++ "", []) | d :: r' => lexQ (tok ++ chS d) r') else lexQ (tok ++ chS c) r
def lexW : Str → List Nat → Str × List Nat
  | tok, [] => (tok, [])
  | tok, c :: r => if isWs c = true then (tok, r) else if c = 92 then (match r with | [] => (tok ++ "", []) | d :: r' => lexW (tok ++ chS d) r') else lexW (tok ++ chS c) r
def lexTop : List Nat → Str × List Nat
  | [] => ("", [])
  | c :: r => if isWs c = true then lexTop r else if c = 34 then lexQ "" r else if c = 92 then (match r with | [] => lexW ("" ++ "") [] | d :: r' => lexW ("" ++ chS d) r') else lexW ("" ++ chS c) r

inductive LxJ0 (lx I : Addr) (R : Str × List Nat) (live : Bool) (r : List Nat) (m : Str → Option Value) : Prop
  | mk (es : m "self" = some (.ref lx)) (ef : m "fiter" = some (.ref I)) (tt : Tok) (h : (live = true ∧ m "token" = some (.str "" tt) ∧ lexTop r = R) ∨ (live = false ∧ m "token" = some (.str R.1 tt) ∧ r = R.2)) : LxJ0 lx I R live r m
inductive LxJ1 (lexF : Str → List Nat → Str × List Nat) (lx I : Addr) (R : Str × List Nat) (live : Bool) (r : List Nat) (m : Str → Option Value) : Prop
  | mk (es : m "self" = some (.ref lx)) (ef : m "fiter" = some (.ref I)) (tok : Str) (tt : Tok) (et : m "token" = some (.str tok tt)) (hl : live = true) (hlex : lexF tok r = R) (hz : tok.length + r.length ≤ 200000) : LxJ1 lexF lx I R live r m
inductive LxW (Y : Lx) (gs : Array GenState) (dr : Drawn) (os : OsState) (b₄ : Sn) (R : Str × List Nat) (r : List Nat) (tt : Tok) (fl : Flow) (s' : Shared) : Prop
  | mk (efl : fl = .next) (y : Str) (ty : Tok) (r' : List Nat) (m' : Str → Option Value) (b' : Sn) (l : b₄.Le b') (S : LxSt Y gs dr os true r' m' b' s') (es : m' "self" = some (.ref Y.lx)) (ef : m' "fiter" = some (.ref Y.I))
    (et : m' "token" = some (.str "" tt)) (ech : m' "ch" = some (.str y ty)) (hlex : lexW ("" ++ y) r' = R) (hr : r'.length ≤ r.length) (hy : y.length ≤ 1) : LxW Y gs dr os b₄ R r tt fl s'

section
variable {prog : Program} {w : World} {A : Around} {E : Value → Shared → Prop} {C : Cx} {L : Addr} {b b0 : Sn} {m mg mb : Str → Option Value} {mu mr : Mu}
  {h h' : Heap} {gs : Array GenState} {dr : Drawn} {tk : Nat} {os : OsState} {env : Env} {x : Str} {pos : Pos} {v : Value} {Y : Lx} {rest : List Nat} {s : Shared} {live : Bool}

/-- the call of _read_char on the lexer, inside get_token -/
theorem lx_call {Q : Value → Shared → Prop} {p2 : Pos} (G : Glb w mg mb Y.C.h₀) (hd : A.depth + 5 < recursionLimit) (S : LxSt Y gs dr os live rest m b s) (K : LexK prog w mg mb b Y.lx Y.dl Y.lf Y.pb Y.st)
    (q0 : rest = [] → ∀ t' b' s', b.Le b' → LxSt Y gs dr os live [] m b' s' → Q (.str "" t') s')
    (q1 : ∀ c r, rest = c :: r → ∀ t' b' s', b.Le b' → LxSt Y gs dr os live r m b' s' → Q (.str (chS c) t') s') :
    wpAny (model prog w) A (call (.ref 113) [.ref Y.lx]) Q E s := by
  obtain ⟨h, tk, od, vs, k, line, rfl, S, hD, hv, hc, hz⟩ := S
  refine wpAny_call (read_char_code G hd (S.perm (p3 ..)) K hD hv hz ?_ ?_)
  · rintro rfl b' h' t' tk' l S'
    exact q0 rfl t' b' _ l ⟨h', tk', od, vs, k, line, rfl, S'.perm (p3' ..), hD, hv, hc, hz⟩
  · rintro c r rfl b' h' t' tk' od' vs' k' l hD' hv' S'
    exact q1 c r rfl t' b' _ l ⟨h', tk', od', vs', k', line + nl c, rfl, S'.perm (p3' ..), hD', hv', by rw [cnt_cons] at hc; omega, by simp at hz; omega⟩

theorem get_token_spec {lx dl lf pb st : Addr} {od : Obj} {vs ps : List Value} {k kp : Nat} {rest : List Nat} {line : Int} {Q : Value → Shared → Prop} (G : Glb w mg mb C.h₀) (hh : A.handled = none) (hd : A.depth + 8 < recursionLimit)
    (S : St C L b m ((dl, od) :: (lf, lstO vs k) :: (pb, lstO ps kp) :: mr) h) (K : LexK prog w mg mb b lx dl lf pb st) (hD : LexD od st pb line) (hv : Chs vs rest) (hz : rest.length ≤ 100000) (hpz : ps.length ≤ 1000)
    (q0 : ∀ y ps', ps = y :: ps' → ∀ b' h' tk' kp', b.Le b' → St C L b' m ((dl, od) :: (lf, lstO vs k) :: (pb, lstO ps' kp') :: mr) h' → Q y ⟨h', gs, dr, tk', os⟩)
    (q1 : ps = [] → ∀ b' h' t' tk' od' vs' k' line', b.Le b' → LexD od' st pb line' → Chs vs' (lexTop rest).2 → line' + cnt (lexTop rest).2 = line + cnt rest → (lexTop rest).2.length ≤ 100000 →
      St C L b' m ((dl, od') :: (lf, lstO vs' k') :: (pb, lstO [] kp) :: mr) h' → Q (.str (lexTop rest).1 t') ⟨h', gs, dr, tk', os⟩) :
    wpAny (model prog w) A (call (.ref 120) [.ref lx]) Q E ⟨h, gs, dr, tk, os⟩ := by
  refine own_call (binds := [("self", .ref lx)]) (mv := [(dl, od), (lf, lstO vs k), (pb, lstO ps kp)]) (mr := mr) G S (by omega) (by k_is) (by k_is) (BindsTo.of_eq rfl) ?_
  intro L' h₁ tk₁ S₁
  obtain ⟨t1, t2, hI⟩ := id hD
  have X := Glb.at (C := ⟨C.h₀, b, h, _⟩) G S₁
  refine wpAny_execs_cons (wpAny_If (isTrue_plain (Attribute_any_ (nmL S₁ rfl (a_get X (S₁.bin _ _ K.inst) (S₁.muin (dl, od) (by simp)) hI (by k_is) (by k_is) (by k_is) (by k_is) rfl rfl fun tk₂ => ?_)))))
  have hpl : h₁.IsList pb ps.toArray := ⟨lstO ps kp, S₁.muin (pb, lstO ps kp) (by simp), rfl, kp, rfl⟩
  refine wpAny_truthy_list (s := ⟨h₁, gs, dr, tk₂, os⟩) hpl (by simp; omega) ?_
  cases ps with
  | cons y ps' =>
    refine wpAny_execs_cons (wpAny_Return_some (MethodCall_ (Attribute_any_ (nmL S₁ rfl (a_get X (S₁.bin _ _ K.inst) (S₁.muin (dl, od) (by simp)) hI (by k_is) (by k_is) (by k_is) (by k_is) rfl rfl fun tk₃ => ?_)))))
    refine g_popM (o := lstO (y :: ps') kp) S₁ (by simp) rfl rfl (callWith_method1 (spliced_cons (cInt (k := 0) (pos := ⟨0, 0, 0, 0⟩) fun t tk₄ => spliced_nil ?_)))
    refine g_popFirst (mu1 := [(dl, od), (lf, lstO vs k)]) (mu2 := []) S₁ (by simp at hpz; omega) fun kp' h₂ S₂ => ?_
    exact .intro S₂ fun S' => q0 y ps' rfl _ _ _ kp' S₂.b0b S'
  | nil =>
    refine wpAny_execs_nil (wpAny_execs_cons (wpAny_Assign_Name (cStr fun t tk₃ => stL S₁ fun h₂ tk₄ S₂ => ?_)))
    clear S₁ X
    -- fiter
    refine wpAny_execs_cons (wpAny_Assign_Name (Call_ (nmB G.to S₂ (by k_is) boot_iter (PyProof.Rows.callWith_builtin1 (spliced_cons ?_)))))
    refine Attribute_any_ (nmL S₂ rfl (a_bound G.to S₂ (S₂.bin _ _ K.inst) (S₂.muin (dl, od) (by simp)) hI (by k_is) (by k_is) (by k_is) (by k_is) (by k_is) (by k_is) (by decide) rfl fun M b₃ h₃ tk₅ l₃ hM S₃ => ?_))
    clear S₂
    refine spliced_cons (cStr (k := 0) (pos := ⟨0, 0, 0, 0⟩) fun t3 tk₆ => spliced_nil (ci_make S₃ hM fun I h₄ hIp S₄ => stL S₄ fun h₅ tk₇ S₅ => ?_))
    clear S₃ S₄
    have K₃ := K.le l₃
    -- the frame of the loops
    let Y : Lx := ⟨⟨C.h₀, b, h, addrs [(dl, od), (lf, lstO vs k), (pb, lstO [] kp)]⟩, L', I, M, t3, dl, lf, pb, st, lx, [(pb, lstO [] kp)], line + cnt rest⟩
    have G' : Glb w mg mb Y.C.h₀ := G
    have S₆ : LxSt Y gs dr os true rest _ b₃ ⟨h₅, gs, dr, tk₇, os⟩ := ⟨h₅, tk₇, od, vs, k, line, rfl, S₅, hD, hv, rfl, hz⟩
    have finish : ∀ {live rest' m₁ b₁ s₁} {tt : Tok}, b₃.Le b₁ → LxSt Y gs dr os live rest' m₁ b₁ s₁ → rest' = (lexTop rest).2 → Back C L b m mr Y.C L' gs dr os Q (.str (lexTop rest).1 tt) s₁ := fun {live rest' m₁ b₁ s₁ tt} hb S e => by
      obtain ⟨h₂, tk₂, od₂, vs₂, k₂, line₂, rfl, S, hD₂, hv₂, hc₂, hz₂⟩ := S
      have S' : St Y.C L' b₁ m₁ [(dl, od₂), (lf, lstO vs₂ k₂), (pb, lstO [] kp)] h₂ := S.drop0 hIp
      subst e
      exact .intro S' fun S'' => q1 rfl b₁ h₂ tt tk₂ od₂ vs₂ k₂ line₂ S'.b0b hD₂ hv₂ hc₂ hz₂ S''
    generalize hR : lexTop rest = R at *
    have szs : ∀ {tok y : Str} {n : Nat}, tok.length + n ≤ 300000 → y.length ≤ 1 → tok.length + y.length ≤ sizeLine := fun a b => by rw [sizeLine_eq]; omega
    have len1 : ∀ c, (chS c).length = 1 := fun _ => rfl
    have lenA : ∀ (x y : Str), (x ++ y).length = x.length + y.length := fun x y => Str.length_append x y
    have len0 : (("" : Str)).length = 0 := rfl
    refine wpAny_execs_cons (wpAny_For (nmL S₅ rfl (ci_iter S₅ (List.mem_cons_self ..) ?_)))
    refine ci_for (Y := Y) G' (by exact hh) (by show A.depth + 1 + 5 < _; omega) rfl K₃ hM
      (LxJ0 lx I R) (Sn.Le.refl _) S₆ ⟨rfl, rfl, t, .inl ⟨rfl, rfl, hR⟩⟩ ?_ ?_
    · rintro c r t4 m₁ b₄ s₁ hb ⟨es, ef, tt, hcase⟩ S
      have hcase : m₁ "token" = some (.str "" tt) ∧ lexTop (c :: r) = R := by
        rcases hcase with ⟨_, a, b⟩ | ⟨a, _, _⟩
        · exact ⟨a, b⟩
        · cases a
      obtain ⟨et, hlex⟩ := hcase
      obtain ⟨h₆, tk₈, od₂, vs₂, k₂, line₂, rfl, S₇, hD₂, hv₂, hc₂, hz₂⟩ := S
      obtain ⟨u1, u2, hI₂⟩ := id hD₂
      have K₄ := K₃.le hb
      have X₂ := Glb.at (C := Y.C) G' S₇
      have hdl : h₆.get? dl = some od₂ := S₇.muin (dl, od₂) (by simp [Y])
      refine wpAny_execs_cons (wpAny_If (wpAny_isTrue_Compare1 (nmL S₇ rfl (Attribute_any_ (nmL S₇ es (a_get X₂ (S₇.bin _ _ K₄.inst) hdl hI₂ (by k_is) (by k_is) (by k_is) (by k_is) rfl rfl fun tk₉ => SB.contains (wpAny_truthy_bool ?_)))))))
      unfold lexTop at hlex
      cases hws : isWs c with
      | true =>
        rw [show Txt.contains "\n\t\r " (chS c) = true from hws]
        rw [hws, if_pos rfl] at hlex
        refine wpAny_execs_cons (wpAny_Continue ?_)
        exact LxGo.mk true r _ b₄ (Sn.Le.refl _) (Nat.le_refl _) ⟨h₆, tk₉, od₂, vs₂, k₂, line₂, rfl, S₇, hD₂, hv₂, hc₂, hz₂⟩ ⟨es, ef, tt, .inl ⟨rfl, et, hlex⟩⟩
      | false =>
        rw [show Txt.contains "\n\t\r " (chS c) = false from hws]
        rw [hws, if_neg (by decide)] at hlex
        refine wpAny_execs_nil (wpAny_execs_cons (wpAny_If (wpAny_isTrue_Compare1 (nmL S₇ rfl (cStr fun t5 tk₁₀ => PyProof.Rows.eq_str (wpAny_truthy_bool ?_))))))
        rw [chS_eq (d := 34) (by decide)]
        by_cases hq : c = 34
        · rw [decide_eq_true hq]
          rw [if_pos hq] at hlex
          -- the quoted word
          refine wpAny_execs_cons (wpAny_For (nmL S₇ ef (ci_iter S₇ (List.mem_cons_self ..) ?_)))
          refine ci_for (Y := Y) (b := b₄) (b0 := b₄) G' (by exact hh) (by show A.depth + 1 + 5 < _; omega) rfl K₄ (hb _ _ hM)
            (LxJ1 lexQ lx I R) (Sn.Le.refl _) ⟨h₆, _, od₂, vs₂, k₂, line₂, rfl, S₇, hD₂, hv₂, hc₂, hz₂⟩ ⟨es, ef, "", tt, et, rfl, hlex, by rw [len0]; omega⟩ ?_ ?_
          · rintro c₂ r₂ t6 m₃ b₅ s₃ hb₅ ⟨es, ef, tok, tt, et, -, hlex, hlen⟩ S
            obtain ⟨h₈, tk₁₁, od₃, vs₃, k₃, line₃, rfl, S₈, hD₃, hv₃, hc₃, hz₃⟩ := S
            refine wpAny_execs_cons (wpAny_If (wpAny_isTrue_Compare1 (nmL S₈ rfl (cStr fun t7 tk₁₂ => PyProof.Rows.eq_str (wpAny_truthy_bool ?_)))))
            rw [chS_eq (d := 34) (by decide)]
            unfold lexQ at hlex
            by_cases hq2 : c₂ = 34
            · rw [decide_eq_true hq2]
              rw [if_pos hq2] at hlex
              refine wpAny_execs_cons (wpAny_Return_some (nmL S₈ et ?_))
              have e1 : tok = R.1 := by rw [← hlex]
              have e2 : r₂ = R.2 := by rw [← hlex]
              rw [e1]
              exact finish (hb.trans hb₅) ⟨h₈, tk₁₂, od₃, vs₃, k₃, line₃, rfl, S₈, hD₃, hv₃, hc₃, hz₃⟩ e2
            · rw [decide_eq_false hq2]
              rw [if_neg hq2] at hlex
              refine wpAny_execs_cons (wpAny_If (wpAny_isTrue_Compare1 (nmL S₈ rfl (cStr fun t7 tk₁₂ => PyProof.Rows.eq_str (wpAny_truthy_bool ?_)))))
              rw [chS_eq (d := 92) (by decide)]
              by_cases hbs : c₂ = 92
              · rw [decide_eq_true hbs]
                rw [if_pos hbs] at hlex
                have X₃ := Glb.at (C := Y.C) G' S₈
                obtain ⟨u3, u4, hI₃⟩ := id hD₃
                have hdl₃ : h₈.get? dl = some od₃ := S₈.muin (dl, od₃) (by simp [Y])
                refine wpAny_execs_cons (wpAny_Assign_Name (MethodCall_ (nmL S₈ es (a_meth X₃ (S₈.bin _ _ (K₄.le hb₅).inst) hdl₃ hI₃ (by k_is) (by k_is) (by k_is) rfl (callWith_K0 X₃ (by k_is) ?_)))))
                refine lx_call (Y := Y) (live := true) (p2 := ⟨0, 0, 0, 0⟩) G' (by show A.depth + 1 + 5 < _; omega) ⟨h₈, _, od₃, vs₃, k₃, line₃, rfl, S₈, hD₃, hv₃, hc₃, hz₃⟩ (K₄.le hb₅) ?_ ?_
                · rintro rfl t8 b₆ s₄ l₆ S
                  obtain ⟨h₉, tk₁₃, od₄, vs₄, k₄, line₄, rfl, S₉, hD₄, hv₄, hc₄, hz₄⟩ := S
                  refine stL S₉ fun h₁₀ tk₁₄ S₁₀ => wpAny_execs_nil (wpAny_execs_nil ?_)
                  refine wpAny_execs_cons (wpAny_AugAssign_Name (ldL S₁₀ et (nmL S₁₀ rfl (SB.iadd (fun t9 tk₁₅ => stL S₁₀ fun h₁₁ tk₁₆ S₁₁ => wpAny_execs_nil ?_) (szs (n := 0) (by omega) (by decide))))))
                  exact LxGo.mk true [] _ b₆ l₆ (by simp) ⟨h₁₁, _, od₄, vs₄, k₄, line₄, rfl, S₁₁, hD₄, hv₄, hc₄, hz₄⟩ ⟨es, ef, tok ++ "", t9, rfl, rfl, by unfold lexQ; exact hlex, by rw [lenA, len0]; simp at hlen ⊢; omega⟩
                · rintro d r₃ rfl t8 b₆ s₄ l₆ S
                  obtain ⟨h₉, tk₁₃, od₄, vs₄, k₄, line₄, rfl, S₉, hD₄, hv₄, hc₄, hz₄⟩ := S
                  refine stL S₉ fun h₁₀ tk₁₄ S₁₀ => wpAny_execs_nil (wpAny_execs_nil ?_)
                  refine wpAny_execs_cons (wpAny_AugAssign_Name (ldL S₁₀ et (nmL S₁₀ rfl (SB.iadd (fun t9 tk₁₅ => stL S₁₀ fun h₁₁ tk₁₆ S₁₁ => wpAny_execs_nil ?_) (szs (n := 0) (by omega) (by rw [len1]; omega))))))
                  exact LxGo.mk true r₃ _ b₆ l₆ (by simp) ⟨h₁₁, _, od₄, vs₄, k₄, line₄, rfl, S₁₁, hD₄, hv₄, hc₄, hz₄⟩ ⟨es, ef, tok ++ chS d, t9, rfl, rfl, hlex, by rw [lenA, len1]; simp at hlen ⊢; omega⟩
              · rw [decide_eq_false hbs]
                rw [if_neg hbs] at hlex
                refine wpAny_execs_nil (wpAny_execs_nil ?_)
                refine wpAny_execs_cons (wpAny_AugAssign_Name (ldL S₈ et (nmL S₈ rfl (SB.iadd (fun t9 tk₁₅ => stL S₈ fun h₁₁ tk₁₆ S₁₁ => wpAny_execs_nil ?_) (szs (n := 0) (by omega) (by rw [len1]; omega))))))
                exact LxGo.mk true r₂ _ b₅ (Sn.Le.refl _) (by simp) ⟨h₁₁, _, od₃, vs₃, k₃, line₃, rfl, S₁₁, hD₃, hv₃, hc₃, hz₃⟩ ⟨es, ef, tok ++ chS c₂, t9, rfl, rfl, hlex, by rw [lenA, len1]; simp at hlen ⊢; omega⟩
          · rintro rest' m₃ b₅ s₃ hb₅ S hJ
            have hJ' : m₃ "self" = some (.ref lx) ∧ m₃ "fiter" = some (.ref I) ∧ (∃ tt, m₃ "token" = some (.str R.1 tt)) ∧ rest' = R.2 ∧ rest' = [] := by
              rcases hJ with ⟨⟨a1, a2, tok, tt, a3, _, a4, _⟩, rfl⟩ | ⟨_, _, _, _, _, a, _⟩
              · unfold lexQ at a4
                exact ⟨a1, a2, ⟨tt, by rw [← a4]; exact a3⟩, by rw [← a4], rfl⟩
              · cases a
            obtain ⟨a1, a2, ⟨tt, a3⟩, a4, a5⟩ := hJ'
            refine wpAny_execs_nil (wpAny_execs_nil ?_)
            exact LxGo.mk false rest' m₃ b₅ hb₅ (by rw [a5]; simp) S ⟨a1, a2, tt, .inr ⟨rfl, a3, a4⟩⟩
        · rw [decide_eq_false hq]
          rw [if_neg hq] at hlex
          refine wpAny_execs_cons (wpAny_mono (Q := LxW Y gs dr os b₄ R r tt)
            (wpAny_If (wpAny_isTrue_Compare1 (nmL S₇ rfl (cStr fun t7 tk₁₂ => PyProof.Rows.eq_str (wpAny_truthy_bool ?_))))) (fun fl s' hfl => ?_) fun _ _ e => e)
          · rw [chS_eq (d := 92) (by decide)]
            by_cases hbs : c = 92
            · rw [decide_eq_true hbs]
              rw [if_pos hbs] at hlex
              refine wpAny_execs_cons (wpAny_Assign_Name (MethodCall_ (nmL S₇ es (a_meth X₂ (S₇.bin _ _ K₄.inst) hdl hI₂ (by k_is) (by k_is) (by k_is) rfl (callWith_K0 X₂ (by k_is) ?_)))))
              refine lx_call (Y := Y) (live := true) (p2 := ⟨0, 0, 0, 0⟩) G' (by show A.depth + 1 + 5 < _; omega) ⟨h₆, _, od₂, vs₂, k₂, line₂, rfl, S₇, hD₂, hv₂, hc₂, hz₂⟩ K₄ ?_ ?_
              · rintro rfl t8 b₆ s₄ l₆ S
                obtain ⟨h₉, tk₁₃, od₄, vs₄, k₄, line₄, rfl, S₉, hD₄, hv₄, hc₄, hz₄⟩ := S
                refine stL S₉ fun h₁₀ tk₁₄ S₁₀ => wpAny_execs_nil ?_
                exact ⟨rfl, "", t8, [], _, b₆, l₆, ⟨h₁₀, _, od₄, vs₄, k₄, line₄, rfl, S₁₀, hD₄, hv₄, hc₄, hz₄⟩, es, ef, et, rfl, hlex, by simp, by decide⟩
              · rintro d r₃ rfl t8 b₆ s₄ l₆ S
                obtain ⟨h₉, tk₁₃, od₄, vs₄, k₄, line₄, rfl, S₉, hD₄, hv₄, hc₄, hz₄⟩ := S
                refine stL S₉ fun h₁₀ tk₁₄ S₁₀ => wpAny_execs_nil ?_
                exact ⟨rfl, chS d, t8, r₃, _, b₆, l₆, ⟨h₁₀, _, od₄, vs₄, k₄, line₄, rfl, S₁₀, hD₄, hv₄, hc₄, hz₄⟩, es, ef, et, rfl, hlex, by simp, by rw [len1]; omega⟩
            · rw [decide_eq_false hbs]
              rw [if_neg hbs] at hlex
              refine wpAny_execs_nil ?_
              exact ⟨rfl, chS c, t4, r, _, b₄, Sn.Le.refl _, ⟨h₆, _, od₂, vs₂, k₂, line₂, rfl, S₇, hD₂, hv₂, hc₂, hz₂⟩, es, ef, et, rfl, hlex, Nat.le_refl _, by rw [len1]; omega⟩
          obtain ⟨rfl, y, ty, r', m', b', lb, S, es, ef, et, ech, hlex, hrl, hyl⟩ := hfl
          obtain ⟨h₉, tk₁₃, od₄, vs₄, k₄, line₄, rfl, S₉, hD₄, hv₄, hc₄, hz₄⟩ := S
          refine wpAny_execs_cons (wpAny_AugAssign_Name (ldL S₉ et (nmL S₉ ech (SB.iadd (fun t9 tk₁₅ => stL S₉ fun h₁₁ tk₁₆ S₁₁ => ?_) (szs (n := 0) (by rw [len0]; omega) hyl)))))
          have K₅ := K₄.le lb
          refine wpAny_execs_cons (wpAny_For (nmL S₁₁ ef (ci_iter S₁₁ (List.mem_cons_self ..) ?_)))
          refine ci_for (Y := Y) (b := b') (b0 := b') G' (by exact hh) (by show A.depth + 1 + 5 < _; omega) rfl K₅ (lb _ _ (hb _ _ hM))
            (LxJ1 lexW lx I R) (Sn.Le.refl _) ⟨h₁₁, _, od₄, vs₄, k₄, line₄, rfl, S₁₁, hD₄, hv₄, hc₄, hz₄⟩ ⟨es, ef, "" ++ y, t9, rfl, rfl, hlex, by rw [lenA, len0]; omega⟩ ?_ ?_
          · rintro c₂ r₂ t6 m₃ b₅ s₃ hb₅ ⟨es, ef, tok, tt, et, -, hlex, hlen⟩ S
            obtain ⟨h₈, tk₁₁, od₃, vs₃, k₃, line₃, rfl, S₈, hD₃, hv₃, hc₃, hz₃⟩ := S
            have X₃ := Glb.at (C := Y.C) G' S₈
            obtain ⟨u3, u4, hI₃⟩ := id hD₃
            have hdl₃ : h₈.get? dl = some od₃ := S₈.muin (dl, od₃) (by simp [Y])
            refine wpAny_execs_cons (wpAny_If (wpAny_isTrue_Compare1 (nmL S₈ rfl (Attribute_any_ (nmL S₈ es (a_get X₃ (S₈.bin _ _ (K₅.le hb₅).inst) hdl₃ hI₃ (by k_is) (by k_is) (by k_is) (by k_is) rfl rfl fun tk₉ => SB.contains (wpAny_truthy_bool ?_)))))))
            unfold lexW at hlex
            cases hws2 : isWs c₂ with
            | true =>
              rw [show Txt.contains "\n\t\r " (chS c₂) = true from hws2]
              rw [hws2, if_pos rfl] at hlex
              refine wpAny_execs_cons (wpAny_Return_some (nmL S₈ et ?_))
              have e1 : tok = R.1 := by rw [← hlex]
              have e2 : r₂ = R.2 := by rw [← hlex]
              rw [e1]
              exact finish (hb.trans (lb.trans hb₅)) ⟨h₈, _, od₃, vs₃, k₃, line₃, rfl, S₈, hD₃, hv₃, hc₃, hz₃⟩ e2
            | false =>
              rw [show Txt.contains "\n\t\r " (chS c₂) = false from hws2]
              rw [hws2, if_neg (by decide)] at hlex
              refine wpAny_execs_cons (wpAny_If (wpAny_isTrue_Compare1 (nmL S₈ rfl (cStr fun t7 tk₁₂ => PyProof.Rows.eq_str (wpAny_truthy_bool ?_)))))
              rw [chS_eq (d := 92) (by decide)]
              by_cases hbs : c₂ = 92
              · rw [decide_eq_true hbs]
                rw [if_pos hbs] at hlex
                refine wpAny_execs_cons (wpAny_Assign_Name (MethodCall_ (nmL S₈ es (a_meth X₃ (S₈.bin _ _ (K₅.le hb₅).inst) hdl₃ hI₃ (by k_is) (by k_is) (by k_is) rfl (callWith_K0 X₃ (by k_is) ?_)))))
                refine lx_call (Y := Y) (live := true) (p2 := ⟨0, 0, 0, 0⟩) G' (by show A.depth + 1 + 5 < _; omega) ⟨h₈, _, od₃, vs₃, k₃, line₃, rfl, S₈, hD₃, hv₃, hc₃, hz₃⟩ (K₅.le hb₅) ?_ ?_
                · rintro rfl t8 b₆ s₄ l₆ S
                  obtain ⟨h₉, tk₁₃, od₄, vs₄, k₄, line₄, rfl, S₉, hD₄, hv₄, hc₄, hz₄⟩ := S
                  refine stL S₉ fun h₁₀ tk₁₄ S₁₀ => wpAny_execs_nil (wpAny_execs_nil ?_)
                  refine wpAny_execs_cons (wpAny_AugAssign_Name (ldL S₁₀ et (nmL S₁₀ rfl (SB.iadd (fun t9 tk₁₅ => stL S₁₀ fun h₁₁ tk₁₆ S₁₁ => wpAny_execs_nil ?_) (szs (n := 0) (by omega) (by decide))))))
                  exact LxGo.mk true [] _ b₆ l₆ (by simp) ⟨h₁₁, _, od₄, vs₄, k₄, line₄, rfl, S₁₁, hD₄, hv₄, hc₄, hz₄⟩ ⟨es, ef, tok ++ "", t9, rfl, rfl, by unfold lexW; exact hlex, by rw [lenA, len0]; simp at hlen ⊢; omega⟩
                · rintro d r₃ rfl t8 b₆ s₄ l₆ S
                  obtain ⟨h₉, tk₁₃, od₄, vs₄, k₄, line₄, rfl, S₉, hD₄, hv₄, hc₄, hz₄⟩ := S
                  refine stL S₉ fun h₁₀ tk₁₄ S₁₀ => wpAny_execs_nil (wpAny_execs_nil ?_)
                  refine wpAny_execs_cons (wpAny_AugAssign_Name (ldL S₁₀ et (nmL S₁₀ rfl (SB.iadd (fun t9 tk₁₅ => stL S₁₀ fun h₁₁ tk₁₆ S₁₁ => wpAny_execs_nil ?_) (szs (n := 0) (by omega) (by rw [len1]; omega))))))
                  exact LxGo.mk true r₃ _ b₆ l₆ (by simp) ⟨h₁₁, _, od₄, vs₄, k₄, line₄, rfl, S₁₁, hD₄, hv₄, hc₄, hz₄⟩ ⟨es, ef, tok ++ chS d, t9, rfl, rfl, hlex, by rw [lenA, len1]; simp at hlen ⊢; omega⟩
              · rw [decide_eq_false hbs]
                rw [if_neg hbs] at hlex
                refine wpAny_execs_nil (wpAny_execs_nil ?_)
                refine wpAny_execs_cons (wpAny_AugAssign_Name (ldL S₈ et (nmL S₈ rfl (SB.iadd (fun t9 tk₁₅ => stL S₈ fun h₁₁ tk₁₆ S₁₁ => wpAny_execs_nil ?_) (szs (n := 0) (by omega) (by rw [len1]; omega))))))
                exact LxGo.mk true r₂ _ b₅ (Sn.Le.refl _) (by simp) ⟨h₁₁, _, od₃, vs₃, k₃, line₃, rfl, S₁₁, hD₃, hv₃, hc₃, hz₃⟩ ⟨es, ef, tok ++ chS c₂, t9, rfl, rfl, hlex, by rw [lenA, len1]; simp at hlen ⊢; omega⟩
          · rintro rest' m₃ b₅ s₃ hb₅ S hJ
            have hJ' : m₃ "self" = some (.ref lx) ∧ m₃ "fiter" = some (.ref I) ∧ (∃ tt, m₃ "token" = some (.str R.1 tt)) ∧ rest' = R.2 ∧ rest' = [] := by
              rcases hJ with ⟨⟨a1, a2, tok, tt, a3, _, a4, _⟩, rfl⟩ | ⟨_, _, _, _, _, a, _⟩
              · unfold lexW at a4
                exact ⟨a1, a2, ⟨tt, by rw [← a4]; exact a3⟩, by rw [← a4], rfl⟩
              · cases a
            obtain ⟨a1, a2, ⟨tt, a3⟩, a4, a5⟩ := hJ'
            refine wpAny_execs_nil (wpAny_execs_nil ?_)
            exact LxGo.mk false rest' m₃ b₅ (lb.trans hb₅) (by rw [a5]; simp) S ⟨a1, a2, tt, .inr ⟨rfl, a3, a4⟩⟩
    · rintro rest' m₁ b₄ s₁ hb S hJ
      have hJ' : (∃ tt, m₁ "token" = some (.str R.1 tt)) ∧ rest' = R.2 := by
        rcases hJ with ⟨⟨_, _, tt, h1⟩, rfl⟩ | ⟨_, _, tt, h1⟩
        · rcases h1 with ⟨_, a, b⟩ | ⟨a, _⟩
          · unfold lexTop at b
            exact ⟨⟨tt, by rw [← b]; exact a⟩, by rw [← b]⟩
          · cases a
        · rcases h1 with ⟨a, _⟩ | ⟨_, a, b⟩
          · cases a
          · exact ⟨⟨tt, a⟩, b⟩
      obtain ⟨⟨tt, et⟩, e2⟩ := hJ'
      obtain ⟨h₈, tk₁₁, od₃, vs₃, k₃, line₃, rfl, S₈, hD₃, hv₃, hc₃, hz₃⟩ := S
      refine wpAny_execs_cons (wpAny_Return_some (nmL S₈ et ?_))
      exact finish hb ⟨h₈, _, od₃, vs₃, k₃, line₃, rfl, S₈, hD₃, hv₃, hc₃, hz₃⟩ e2
end
end Mine

end
section
open PySem PySem.W PyProof.Rows PySem.Calls PySem.Spec
set_option Elab.async false
set_option maxRecDepth 100000
set_option maxHeartbeats 1000000
set_option linter.unusedVariables false
namespace Mine
open PySem.Builtin PySem.Builtin.Str
theorem filled12 : PySem.Challenge.rw_xo0020_01 = PySem.Challenge.rw_xo0020_01 ∧ Mine.hd.heap_39 = Mine.hd.heap_39 := by k_fill; exact ⟨rfl, rfl⟩
section
variable {prog : Program} {w : World} {A : Around} {E : Value → Shared → Prop} {C : Cx} {L : Addr} {b b0 : Sn} {m mg mb : Str → Option Value} {mu mr : Mu}
  {h h' : Heap} {gs : Array GenState} {dr : Drawn} {tk : Nat} {os : OsState} {env : Env} {x : Str} {pos : Pos} {v : Value}

theorem make_lexer {fp : Value} {Q : Value → Shared → Prop} (G : Glb w mg mb C.h₀) (hd : A.depth + 8 < recursionLimit) (S : St C L b m mu h)
    (q : ∀ x dx od pb k b' h' t1 t2 tk', b.Le b' → b' x = some (instObj 130 dx) → dx ∉ C.ps → pb ∉ C.ps → InD od [("lineno", .int 1 t1), ("instream", fp), ("whitespace", .str "\n\t\r " t2), ("pushback", .ref pb)] →
      St C L b' m ((dx, od) :: (pb, lstO [] k) :: mu) h' → Q (.ref x) ⟨h', gs, dr, tk', os⟩) :
    wpAny (model prog w) A (call (.ref 130) [fp]) Q E ⟨h, gs, dr, tk, os⟩ := by
  refine own_make (f := 106) (binds := fun x => [("self", .ref x), ("fp", fp)]) (mv := []) (mr := mu) G S (by omega) (by k_is) (by k_is) (by k_is) (by k_is) (by k_is) (fun x s => BindsTo.of_eq rfl) ?_
  intro x dx b' hh L' h₁ tk₁ A' hA' lb hx hdx hfr S₁
  refine wpAny_execs_cons (plainObj_wpAny_Assign_Attribute (cInt fun t1 tk₂ => nmL S₁ rfl (a_set (mu1 := []) G.to S₁ (S₁.bin _ _ hx) InD.nil (by simp) (by k_is) (by k_is) (by k_is) (by k_is) fun o₁ h₂ tk₃ i₁ S₂ => ?_)))
  refine wpAny_execs_cons (plainObj_wpAny_Assign_Attribute (nmL S₂ rfl (nmL S₂ rfl (a_set (mu1 := []) G.to S₂ (S₂.bin _ _ hx) i₁ (Nat.le_of_ble_eq_true rfl) (by k_is) (by k_is) (by k_is) (by k_is) fun o₂ h₃ tk₄ i₂ S₃ => ?_))))
  refine wpAny_execs_cons (plainObj_wpAny_Assign_Attribute (cStr fun t2 tk₅ => nmL S₃ rfl (a_set (mu1 := []) G.to S₃ (S₃.bin _ _ hx) i₂ (Nat.le_of_ble_eq_true rfl) (by k_is) (by k_is) (by k_is) (by k_is) fun o₃ h₄ tk₆ i₃ S₄ => ?_)))
  refine wpAny_execs_cons (plainObj_wpAny_Assign_Attribute (List_ (spliced_nil (g_newL S₄ (by simp) fun D h₅ hD hDn S₅ => nmL S₅ rfl (a_set (mu1 := [(D, lstO [] 0)]) G.to S₅ (S₅.bin _ _ hx) i₃ (Nat.le_of_ble_eq_true rfl) (by k_is) (by k_is) (by k_is) (by k_is) fun o₄ h₆ tk₇ i₄ S₆ => ?_)))))
  refine wpAny_execs_nil ?_
  have hDh : hh.get? D = none := by
    cases e : hh.get? D with
    | none => rfl
    | some o => rw [S₄.pin D o e hD] at hDn; cases hDn
  refine .intro S₆ fun S' => ⟨rfl, q x dx o₄ D 0 _ _ t1 t2 _ (lb.trans S₆.b0b) (S₆.b0b _ _ hx) hdx (hfr D hDh) i₄ (S'.perm (List.Perm.swap ..))⟩

theorem push_token_spec {lx dl lf pb st : Addr} {od : Obj} {ps : List Value} {kp : Nat} {line : Int} {v : Value} {Q : Value → Shared → Prop} (G : Glb w mg mb C.h₀) (hd : A.depth + 3 < recursionLimit)
    (S : St C L b m ((dl, od) :: (pb, lstO ps kp) :: mr) h) (inst : b lx = some (instObj 130 dl)) (hD : LexD od st pb line) (hpz : ps.length ≤ 1000)
    (q : ∀ b' h' tk' kp', b.Le b' → St C L b' m ((dl, od) :: (pb, lstO (ps ++ [v]) kp') :: mr) h' → Q .none ⟨h', gs, dr, tk', os⟩) :
    wpAny (model prog w) A (call (.ref 127) [.ref lx, v]) Q E ⟨h, gs, dr, tk, os⟩ := by
  refine own_call (binds := [("self", .ref lx), ("token", v)]) (mv := [(dl, od), (pb, lstO ps kp)]) (mr := mr) G S (by omega) (by k_is) (by k_is) (BindsTo.of_eq rfl) ?_
  intro L' h₁ tk₁ S₁
  obtain ⟨t1, t2, hI⟩ := hD
  have X := Glb.at (C := ⟨C.h₀, b, h, _⟩) G S₁
  refine wpAny_execs_cons (wpAny_Expr (MethodCall_ (Attribute_any_ (nmL S₁ rfl (a_get X (S₁.bin _ _ inst) (S₁.muin (dl, od) (by simp)) hI (by k_is) (by k_is) (by k_is) (by k_is) rfl rfl fun tk₂ => ?_)))))
  refine g_appM (o := lstO ps kp) S₁ (by simp) rfl rfl (callWith_method1 (spliced_cons (nmL S₁ rfl (spliced_nil ?_))))
  refine g_app (mu1 := [(dl, od)]) (mu2 := []) S₁ (by omega) fun k' h₂ S₂ => wpAny_execs_nil ?_
  exact .intro S₂ fun S' => q _ _ _ k' S₂.b0b S'

theorem rev_codes (y : Str) (u : Tok) : (Txt.sliceBy y none none (-1, u)).cps.toList = y.cps.toList.reverse := by
  rw [step_rev_list]
  apply List.ext_getElem
  · simp [Str.length]
  · intro i h1 h2
    simp only [List.length_map, List.length_range] at h1
    simp only [List.getElem_map, List.getElem_range, List.getElem_reverse]
    have hl : y.length = y.cps.size := rfl
    rw [hl] at h1 ⊢
    rw [Array.getElem_toList]
    simp [Array.getD, show y.cps.size - 1 - i < y.cps.size by omega]

theorem strs_of_items {y : Str} {vs : List Value} (hl : vs.length = y.cps.size) (hv : ∀ (j : Nat) v, vs[j]? = some v → ∃ c u, y.cps[j]? = some c ∧ v = Value.str ⟨#[c]⟩ u) : StrsAre vs (y.cps.toList.map chS) := by
  have key : ∀ (cs : List Nat) (vs : List Value), vs.length = cs.length → (∀ (j : Nat) v, vs[j]? = some v → ∃ c u, cs[j]? = some c ∧ v = Value.str ⟨#[c]⟩ u) → StrsAre vs (cs.map chS) := by
    intro cs
    induction cs with
    | nil => intro vs hl _; cases vs with | nil => exact .nil | cons _ _ => cases hl
    | cons c cs ih =>
      intro vs hl hv
      cases vs with
      | nil => cases hl
      | cons v vs =>
        obtain ⟨c', u, e, rfl⟩ := hv 0 v rfl
        simp at e
        subst e
        exact .cons _ _ (ih vs (by simpa using hl) fun j w hw => by simpa using hv (j + 1) w (by simpa using hw))
  refine key _ _ (by simpa using hl) fun j v e => ?_
  obtain ⟨c, u, e1, e2⟩ := hv j v e
  exact ⟨c, u, by simpa using e1, e2⟩
end
end Mine

end
section
open PySem PySem.W PyProof.Rows PySem.Calls PySem.Spec
set_option Elab.async false
set_option maxRecDepth 100000
set_option maxHeartbeats 1000000
set_option linter.unusedVariables false
namespace Mine
open PySem.Builtin PySem.Builtin.Str
theorem filled13 : PySem.Challenge.rw_xo0020_01 = PySem.Challenge.rw_xo0020_01 ∧ Mine.hd.heap_39 = Mine.hd.heap_39 := by k_fill; exact ⟨rfl, rfl⟩
theorem strs_unsnoc {y : Str} : ∀ {ys : List Str} {vs : List Value}, StrsAre vs (ys ++ [y]) → ∃ us t, vs = us ++ [Value.str y t] ∧ StrsAre us ys
  | [], vs, h => by
    cases h with
    | cons s t h => cases h; exact ⟨[], t, rfl, .nil⟩
  | z :: ys, vs, h => by
    cases h with
    | cons s t h =>
      obtain ⟨us, t', rfl, h'⟩ := strs_unsnoc h
      exact ⟨_ :: us, t', rfl, .cons _ _ h'⟩
section
variable {prog : Program} {w : World} {A : Around} {E : Value → Shared → Prop} {C : Cx} {L : Addr} {b b0 : Sn} {m mg mb : Str → Option Value} {mu mr : Mu}
  {h h' : Heap} {gs : Array GenState} {dr : Drawn} {tk : Nat} {os : OsState} {env : Env} {x : Str} {pos : Pos} {v : Value}

theorem law_lexer_spec {y : Str} {u : Tok} {P : Addr} {Q : Value → Shared → Prop} (G : Glb w mg mb C.h₀) (H : CodeHd C.h₀ 194 P) (hh : A.handled = none) (hd : A.depth + 12 < recursionLimit) (S : St C L b m ((P, tabObj #[]) :: mu) h) (hz : y.cps.size ≤ 100000)
    (q : ∀ lx dl lf pb st od vs k kp ps b' h' tk', b.Le b' → LexK prog w mg mb b' lx dl lf pb st → LexD od st pb 1 → Chs vs y.cps.toList → dl ∉ C.ps → lf ∉ C.ps → pb ∉ C.ps →
      St C L b' m ((dl, od) :: (lf, lstO vs k) :: (pb, lstO [] kp) :: (P, tabObj ps) :: mu) h' → Q (.ref lx) ⟨h', gs, dr, tk', os⟩) :
    wpAny (model prog w) A (call (.ref 195) [.str y u]) Q E ⟨h, gs, dr, tk, os⟩ := by
  refine own_callC (binds := [("text", .str y u)]) (mv := [(P, tabObj #[])]) (mr := mu) G S (by omega) (by k_is) (by k_is) (BindsTo.of_eq rfl) ?_
  intro L' h₁ tk₁ cells Y S₁
  have hY := CellsAre.one Y; obtain ⟨o1, rfl, d1⟩ := hY; clear Y
  replace d1 : o1.data = .cell none := d1
  replace S₁ : St _ _ b _ ((L' + 1, o1) :: [(P, tabObj #[])]) h₁ := S₁
  refine wpAny_execs_cons (wpAny_Assign_Name (Call_ (nmB G.to S₁ (by k_is) PyProof.Rows.boot_list (PySem.callWith_type1 ?_))))
  refine g_strRev S₁ (nmL S₁ rfl (UnaryOp_ (cInt fun t2 tk2 => PyProof.Rows.neg_int ⟨_, _, _, _, _, _, rfl, rfl, rfl, hz, S₁, fun h₂ t₃ tk₃ S₂ => ?_⟩)))
  clear S₁
  have hrl : (Txt.sliceBy y none none (-1, tk2)).cps.size = y.cps.size := by
    have := rev_codes y tk2
    have h2 := congrArg List.length this
    simpa using h2
  refine call_list_str (s := ⟨h₂, gs, dr, tk₃, os⟩) (by exact hh) _ _ (hn := by rw [hrl, sizeLine_eq]; omega) fun h₃ tk₄ acc c₀ hk hS' hacc => ?_
  have hacc2 : (⟨.type "list", none, .seq acc c₀, #[]⟩ : Obj) = lstO acc.toList c₀ := by simp [lstO]
  have S₃ := S₂.new (gone_self h₂) (hS'.trans (congrArg some hacc2)) hk
  have hlf : h₂.objs.size ∉ (⟨C.h₀, b, h, addrs [(P, tabObj #[])]⟩ : Cx).ps := (S₂.fresh (gone_self h₂)).2.2.2.1
  have hstr : Chs acc.toList y.cps.toList := by
    unfold Chs
    have e := rev_codes y tk2
    rw [← e]
    exact strs_of_items (by have := hacc.1; simpa using this) fun j v e => by
      obtain ⟨c, u, hc, rfl⟩ := hacc.2 j v (by simpa using e)
      exact ⟨c, u, hc, rfl⟩
  simp only at S₃ hlf
  generalize h₂.objs.size = lf at *
  refine stC (mu1 := [(lf, lstO acc.toList c₀)]) (mu2 := [(P, tabObj #[])]) S₃ rfl d1 (fun h₄ o2 d2 S₄ _ => ?_)
  have hcel : L' + 1 ∉ (⟨C.h₀, b, h, addrs [(P, tabObj #[])]⟩ : Cx).ps := fun q => by
    have hin := S₄.mund
    have : L' + 1 = P := by simpa using q
    simp only [addrs, List.map_cons, List.map_append, List.map_nil, List.nodup_cons, List.singleton_append] at hin
    exact hin.2.1 (by simp [this])
  obtain ⟨S₅, l₅⟩ := S₄.freeze hcel
  have cel : CelB (b.put (L' + 1) o2) (L' + 1) (.ref lf) := CelB.put d2
  generalize b.put (L' + 1) o2 = b₅ at *
  clear S₂ S₃ S₄
  replace S₅ : St _ _ b₅ _ ([(lf, lstO acc.toList c₀)] ++ (P, tabObj #[]) :: []) h₄ := S₅
  refine wpAny_execs_cons (nest_def (C := ⟨C.h₀, b, h, addrs [(P, tabObj #[])]⟩) (mu1 := [(lf, lstO acc.toList c₀)]) (mu2 := []) G.to H S₅ (clos := [("left", L' + 1)]) (by with_unfolding_all rfl) rfl rfl (by show TriplesOk []; simp [TriplesOk]) rfl ?_)
  intro fr c' oc vs t ctv doc pm b₆ h₆ tk₆ ps l₆ hfr hc' hoc hvs S₆
  clear S₅
  replace cel := cel.le l₆
  have hread : ReadOk prog w mg mb b₆ fr lf := by
    intro A' E' C' Lx b' m' mr' hx gs' dr' tk' os' vs' k' rest t' Q' lb' G' hd' Sx hv' hz' q0 q1
    refine own_clos (binds := [("most", .int 1 t')]) (mv := [(lf, lstO vs' k')]) (mr := mr') G' Sx (by omega) (lb' _ _ hfr) ⟨oc, vs, t, lb' _ _ hc', hoc, hvs⟩ (BindsTo.of_eq rfl) ?_
    intro Lr hr tkr Sr
    have hlen : vs'.length = rest.length := by
      have := StrsAre.length hv'
      simpa using this
    refine wpAny_execs_cons (wpAny_Return_some (IfExp_ (isTrue_plain (nmF rfl ((cel.le lb').at Sr) ?_))))
    refine wpAny_truthy_list (s := ⟨hr, gs', dr', tkr, os'⟩) ⟨lstO vs' k', Sr.muin (lf, lstO vs' k') (by simp), rfl, k', rfl⟩ (by simp; omega) ?_
    cases rest with
    | nil =>
      have e : vs' = [] := List.eq_nil_of_length_eq_zero (by simpa using hlen)
      subst e
      refine cStr fun t9 tk9 => ?_
      exact .intro Sr fun S' => q0 rfl _ _ _ _ Sr.b0b S'
    | cons c r =>
      have hv2 : StrsAre vs' (r.reverse.map chS ++ [chS c]) := by
        have := hv'
        unfold Chs at this
        simpa using this
      obtain ⟨us, t9, rfl, hus⟩ := strs_unsnoc hv2
      have he : (!(us ++ [Value.str (chS c) t9]).toArray.isEmpty) = true := by simp
      rw [he]
      refine MethodCall_ (nmF rfl ((cel.le lb').at Sr) (g_popM (o := lstO (us ++ [Value.str (chS c) t9]) k') Sr (by simp) rfl rfl (callWith_method0 ?_)))
      refine g_popLast (mu1 := []) (mu2 := []) Sr (by simp at hlen hz'; omega) fun k9 h9 S9 => ?_
      exact .intro S9 fun S' => q1 c r rfl _ _ _ _ us k9 S9.b0b hus S'
  -- the stream
  refine wpAny_execs_cons (wpAny_Assign_Name (Call_ (nmG G.to S₆ (by k_is) (callWith_K (Glb.at (C := ⟨C.h₀, b, h, _⟩) G S₆) (by k_is) (spliced_cons (Constant_none (k := 0) (pos := ⟨0, 0, 0, 0⟩) (spliced_nil ⟨Glb.at (C := ⟨C.h₀, b, h, _⟩) G S₆, ?_⟩)))))))
  refine make_lexer G.to (by show A.depth + 1 + 8 < _; omega) S₆ fun st ds ods pbs kbs b₇ h₇ u1 u2 tk₇ l₇ hst hds hpbs hI₇ S₇ => stL S₇ fun h₈ tk₈ S₈ => ?_
  clear S₆ S₇
  refine wpAny_execs_cons (plainObj_wpAny_Assign_Attribute (nmL S₈ rfl (nmL S₈ rfl (a_set (mu1 := []) G.to S₈ (S₈.bin _ _ hst) hI₇ (Nat.le_of_ble_eq_true rfl) (by k_is) (by k_is) (by k_is) (by k_is) fun od₉ h₉ tk₉ hI₉ S₉ => ?_))))
  clear S₈
  obtain ⟨S₁₀, l₁₀⟩ := St.freeze (mu1 := []) S₉ hds
  have hdsb : (b₇.put ds od₉) ds = some od₉ := Sn.put_self ..
  generalize b₇.put ds od₉ = b₁₀ at *
  replace S₁₀ : St _ _ b₁₀ _ ((pbs, lstO [] kbs) :: (lf, lstO acc.toList c₀) :: (P, tabObj ps) :: []) h₉ := S₁₀
  have S₁₁ := S₁₀.drop0 hpbs
  clear S₉ S₁₀
  have LK : ∀ lx dl pb b', b₁₀.Le b' → b' lx = some (instObj 130 dl) → LexK prog w mg mb b' lx dl lf pb st := fun lx dl pb b' l e =>
    ⟨e, ds, od₉, _, fr, l _ _ (l₁₀ _ _ hst), l _ _ hdsb, hI₉, rfl, ⟨_, _, _, _, l _ _ (l₁₀ _ _ (l₇ _ _ hfr))⟩, fun A E C L b'' m mr h gs dr tk os vs k rest t Q l2 => hread A E C L b'' m mr h gs dr tk os vs k rest t Q ((l₇.trans (l₁₀.trans l)).trans l2)⟩
  refine wpAny_execs_cons (wpAny_Return_some (Call_ (nmG G.to S₁₁ (by k_is) (callWith_K (Glb.at (C := ⟨C.h₀, b, h, _⟩) G S₁₁) (by k_is) (spliced_cons (nmL S₁₁ rfl (spliced_nil ⟨Glb.at (C := ⟨C.h₀, b, h, _⟩) G S₁₁, ?_⟩)))))))
  refine make_lexer G.to (by show A.depth + 1 + 8 < _; omega) S₁₁ fun lx dl odl pb kp b₁₂ h₁₂ u3 u4 tk₁₂ l₁₂ hlx hdl hpb hI₁₂ S₁₂ => ?_
  have out : ∀ a o, (a, o) ∈ (dl, odl) :: (pb, lstO [] kp) :: (lf, lstO acc.toList c₀) :: (P, tabObj ps) :: [] → a ∉ (⟨C.h₀, b, h, addrs [(P, tabObj #[])]⟩ : Cx).ps → a ∉ C.ps := fun a o hm hn => by
    rcases S₁₂.mufr _ hm with h1 | h1
    · exact absurd h1 hn
    · exact (S.fresh h1).2.2.2.1
  refine .intro S₁₂ fun S' => q lx dl lf pb st odl _ c₀ kp ps b₁₂ _ _ S₁₂.b0b (LK lx dl pb b₁₂ l₁₂ hlx) ⟨u3, u4, hI₁₂⟩ hstr (out dl odl (by simp) hdl) (out lf (lstO acc.toList c₀) (by simp) hlf) (out pb (lstO [] kp) (by simp) hpb) (S'.perm ?_)
  exact .cons _ (List.Perm.swap ..)
end
end Mine

end
section
open PySem PySem.W PyProof.Rows PySem.Calls PySem.Spec
set_option Elab.async false
set_option maxRecDepth 100000
set_option maxHeartbeats 1000000
set_option linter.unusedVariables false
namespace Mine
open PySem.Builtin PySem.Builtin.Str
theorem filled14b : PySem.Challenge.rw_xo0020_01 = PySem.Challenge.rw_xo0020_01 ∧ Mine.hd.heap_39 = Mine.hd.heap_39 := by k_fill; exact ⟨rfl, rfl⟩

def visit (n : Int) (ins : List (Str × Int)) (w : Str) : List (Str × Int) := putL ins w ((look ins w).getD 0 + n)
def climbs : Nat → Str → List Str
  | 0, w => [w]
  | k + 1, w => if reachP w = w then [w] else w :: climbs k (parS w)
def bookL : List (Str × Int) → List (Str × Int) → List (Str × Int)
  | [], ins => ins
  | p :: ps, ins => bookL ps ((climbs p.1.length p.1).foldl (visit p.2) ins)
def vis (B : List (Str × Int)) : Nat := (B.map fun p => (climbs p.1.length p.1).length).sum
def Enc : List (Str × Int) → List Nat → Prop
  | [], r => lexTop r = (("" : Str), ([] : List Nat))
  | p :: ps, r => (lexTop r).1 = p.1 ∧ Enc ps (lexTop r).2

section
variable {prog : Program} {w : World} {A : Around} {E : Value → Shared → Prop} {C : Cx} {L : Addr} {b b0 : Sn} {m mg mb : Str → Option Value} {mu mr : Mu}
  {h h' : Heap} {gs : Array GenState} {dr : Drawn} {tk : Nat} {os : OsState} {env : Env} {x : Str} {pos : Pos} {v : Value}

def BookJ (N : Str → Prop) (B R : List (Str × Int)) (wd : Str) (ins : List (Str × Int)) (rest : List Nat) (i : Nat) (n : Nat) : Prop :=
  (wd = "" ∧ ins = R ∧ rest = [] ∧ n = 0) ∨ (∃ p Bs k, B.drop i = p :: Bs ∧ N wd ∧ wd.length ≤ k ∧ k ≤ 1000 ∧ Enc Bs rest ∧ bookL Bs ((climbs k wd).foldl (visit p.2) ins) = R ∧ ins.length + (climbs k wd).length + vis Bs ≤ 900 ∧ n = (B.length - i) * 2000 + k + 1)

/-- what the next fresh token means -/
theorem bookJ_next {N : Str → Prop} {B R : List (Str × Int)} {ins : List (Str × Int)} {rest : List Nat} {i : Nat} (hN : ∀ p ∈ B, N p.1 ∧ p.1.length ≤ 1000) (hE : Enc (B.drop i) rest) (hR : bookL (B.drop i) ins = R) (hv : ins.length + vis (B.drop i) ≤ 900) :
    ∃ n, BookJ N B R (lexTop rest).1 ins (lexTop rest).2 i n ∧ n ≤ (B.length - i) * 2000 + 1001 := by
  cases hd : B.drop i with
  | nil =>
    rw [hd] at hE hR
    have hE' : lexTop rest = (("" : Str), ([] : List Nat)) := hE
    exact ⟨0, .inl ⟨by rw [hE'], hR, by rw [hE'], rfl⟩, Nat.zero_le _⟩
  | cons p Bs =>
    rw [hd] at hE hR hv
    obtain ⟨h1, h2⟩ := hE
    have hp : p ∈ B := List.mem_of_mem_drop (i := i) (by rw [hd]; exact List.mem_cons_self ..)
    obtain ⟨n1, n2⟩ := hN p hp
    refine ⟨(B.length - i) * 2000 + p.1.length + 1, .inr ⟨p, Bs, p.1.length, hd, h1 ▸ n1, Nat.le_of_eq (by rw [h1]), n2, h2, ?_, ?_, rfl⟩, by omega⟩
    · rw [h1]; exact hR
    · rw [h1]
      have e : vis (p :: Bs) = (climbs p.1.length p.1).length + vis Bs := by simp [vis]
      rw [e] at hv
      omega

inductive BookI (prog : Program) (w : World) (C' : Cx) (L' : Addr) (b : Sn) (gs : Array GenState) (dr : Drawn) (os : OsState) (dl lf pb st lx wa : Addr) (tot : Int) (N : Str → Prop) (B R : List (Str × Int)) (n : Nat) (s' : Shared) : Prop
  | mk (h' : Heap) (tk' : Nat) (od' : Obj) (vs' : List Value) (k' kp' : Nat) (m' : Str → Option Value) (b' : Sn) (wd : Str) (tw : Tok) (ins : List (Str × Int)) (iv : Value) (rest' : List Nat) (line' : Int) (i : Nat) (ti : Tok)
    (e : s' = ⟨h', gs, dr, tk', os⟩) (S : St C' L' b' m' [(dl, od'), (lf, lstO vs' k'), (pb, lstO [] kp')] h') (l : b.Le b') (hD : LexD od' st pb line') (hv : Chs vs' rest') (hc : line' + cnt rest' = tot) (hz : rest'.length ≤ 100000)
    (e1 : m' "lexer" = some (.ref lx)) (e2 : m' "weights" = some (.ref wa)) (e3 : m' "inside" = some iv) (hi : DcOf prog w IsI b' iv ins) (e4 : m' "turn" = some (.int (i : Int) ti)) (e5 : m' "word" = some (.str wd tw)) (hJ : BookJ N B R wd ins rest' i n) :
    BookI prog w C' L' b gs dr os dl lf pb st lx wa tot N B R n s'

theorem booked_spec {lx dl lf pb st : Addr} {od : Obj} {vs : List Value} {k kp : Nat} {rest : List Nat} {line : Int} {N : Str → Prop} {B : List (Str × Int)} {wv : Value} {Q : Value → Shared → Prop} (G : Glb w mg mb C.h₀) (hh : A.handled = none) (hd : A.depth + 12 < recursionLimit)
    (S : St C L b m ((dl, od) :: (lf, lstO vs k) :: (pb, lstO [] kp) :: mr) h) (K : LexK prog w mg mb b lx dl lf pb st) (hD : LexD od st pb line) (hv : Chs vs rest) (hz : rest.length ≤ 100000)
    (W : LsOf IsI b wv (B.map (·.2))) (hN : ∀ wd, N wd → okH wd = true ∧ (reachP wd ≠ wd → N (parS wd) ∧ (parS wd).length < wd.length)) (hB : ∀ p ∈ B, N p.1) (hE : Enc B rest) (hvis : vis B ≤ 900) (hBz : B.length ≤ 1000)
    (q : ∀ r b' h' tk' od' vs' k' kp', b.Le b' → LexD od' st pb (line + cnt rest) → St C L b' m ((dl, od') :: (lf, lstO vs' k') :: (pb, lstO [] kp') :: mr) h' → DcOf prog w IsI b' r (bookL B []) → Q r ⟨h', gs, dr, tk', os⟩) :
    wpAny (model prog w) A (call (.ref 202) [.ref lx, wv]) Q E ⟨h, gs, dr, tk, os⟩ := by
  obtain ⟨wa, ws, rfl, LW, alw⟩ := W
  have hokz : ∀ wd, N wd → 0 < wd.length ∧ wd.length ≤ 1000 := fun wd n => by
    have := (hN wd n).1
    unfold okH at this
    simp only [Bool.and_eq_true, decide_eq_true_eq] at this
    exact this.1.1.2
  have hNB : ∀ p ∈ B, N p.1 ∧ p.1.length ≤ 1000 := fun p hp => ⟨hB p hp, (hokz _ (hB p hp)).2⟩
  generalize hR : bookL B [] = R at *
  generalize htot : line + cnt rest = tot at *
  have wl : ws.length = B.length := by have := alw.length; simpa using this
  refine own_call (binds := [("lexer", .ref lx), ("weights", .ref wa)]) (mv := [(dl, od), (lf, lstO vs k), (pb, lstO [] kp)]) (mr := mr) G S (by omega) (by k_is) (by k_is) (BindsTo.of_eq rfl) ?_
  intro L' h₁ tk₁ S₁
  refine wpAny_execs_cons (wpAny_Assign_Name (g_newD G.to S₁ fun Di oi h₂ hDi hloi hoi S₂ => stL S₂ fun h₃ tk₃ S₃ => ?_))
  clear S₁ S₂
  obtain ⟨b₄, l₄, S₄, LD⟩ := S₃.fzDic hloi hoi hDi
  clear S₃
  refine wpAny_execs_cons (wpAny_Assign_Name (cInt fun t₅ tk₅ => stL S₄ fun h₅ tk₆ S₅ => ?_))
  clear S₄
  -- the first token
  obtain ⟨t1, t2, hI⟩ := id hD
  have X := Glb.at (C := ⟨C.h₀, b, h, _⟩) G S₅
  refine wpAny_execs_cons (wpAny_Assign_Name (MethodCall_ (nmL S₅ rfl (a_meth X (S₅.bin _ _ (K.le l₄).inst) (S₅.muin (dl, od) (by simp)) hI (by k_is) (by k_is) (by k_is) rfl (callWith_K0 X (by k_is) ?_)))))
  refine get_token_spec (mr := []) G.to (by exact hh) (by show A.depth + 1 + 8 < _; omega) S₅ (K.le l₄) hD hv hz (by simp) (fun y ps' e => by cases e) fun _ b₆ h₆ t₆ tk₇ od₆ vs₆ k₆ line₆ l₆ hD₆ hv₆ hc₆ hz₆ S₆ => stL S₆ fun h₇ tk₈ S₇ => ?_
  clear S₅ S₆ X
  -- the loop
  have drop0 : B.drop 0 = B := rfl
  obtain ⟨n0, hJ0, _⟩ := bookJ_next (ins := []) hNB (i := 0) hE hR (by show 0 + vis B ≤ 900; omega)
  refine wpAny_execs_cons (wpAny_While ?_)
  refine codeAny_whileLoop (BookI prog w ⟨C.h₀, b, h, addrs [(dl, od), (lf, lstO vs k), (pb, lstO [] kp)]⟩ L' b gs dr os dl lf pb st lx wa tot N B R) ?_ n0
    ⟨h₇, tk₈, od₆, vs₆, k₆, kp, _, b₆, _, t₆, [], .ref Di, _, line₆, 0, t₅, rfl, S₇, l₄.trans l₆, hD₆, hv₆, by rw [hc₆, htot], hz₆, rfl, rfl, rfl, ⟨Di, [], rfl, LD.le l₆, .nil⟩, rfl, rfl, hJ0⟩
  rintro n s' ⟨h₈, tk₉, od₈, vs₈, k₈, kp₈, m₈, b₈, wd, tw, ins, iv, rest₈, line₈, i, ti, rfl, S₈, lb₈, hD₈, hv₈, hc₈, hz₈, e1, e2, e3, hins, e4, e5, hJ⟩
  refine wpAny_isTrue_Compare1 (nmL S₈ e5 (cStr fun t9 tk₁₀ => PyProof.Rows.ne_str (wpAny_truthy_bool ?_)))
  rcases hJ with ⟨rfl, rfl, rfl, rfl⟩ | ⟨p, Bs, kk, hdrop, hNw, hkw, hk1000, hEnc, hbook, hlen, rfl⟩
  · rw [show ((("" : Str)) != "") = false by decide]
    refine wpAny_execs_nil (wpAny_execs_cons (wpAny_Return_some (nmL S₈ e3 ?_)))
    have hct : line₈ = tot := by simpa [cnt] using hc₈
    exact .intro S₈ fun S' => q _ _ _ _ od₈ vs₈ k₈ kp₈ S₈.b0b (hct ▸ hD₈) S' hins
  · obtain ⟨hok, hup⟩ := hN wd hNw
    obtain ⟨hz0, hz1⟩ := hokz wd hNw
    have hne : (wd != ("" : Str)) = true := by
      rw [bne_iff_ne]; rintro rfl; exact absurd hz0 (by decide)
    rw [hne]
    simp only [if_true]
    have hi : i < B.length := by
      rcases Nat.lt_or_ge i B.length with h1 | h1
      · exact h1
      · rw [List.drop_of_length_le h1] at hdrop; cases hdrop
    have hBi : B[i]? = some p := by
      have := congrArg (fun l => l[0]?) hdrop
      simpa using this
    have hdrop' : B.drop (i + 1) = Bs := by
      have := congrArg List.tail hdrop
      simpa using this
    obtain ⟨v9, hv9, t10, rfl⟩ := alw.get' (i := i) (y := p.2) (by simp [hBi])
    have LW₈ := LW.le lb₈
    have K₈ := K.le lb₈
    -- inside = add_callers(inside, {word: weights[turn]})
    refine wpAny_execs_cons (wpAny_Assign_Name (Call_ (nmG G.to S₈ (by k_is) (callWith_K (Glb.at (C := ⟨C.h₀, b, h, _⟩) G S₈) (by k_is) (spliced_cons (nmL S₈ e3 (spliced_cons ?_)))))))
    refine g_dict1 G.to S₈ fun Dd od9 h₉ hDd hlod hod9 S₉ => nmL S₉ e5 (Subscript_ (nmL S₉ e2 (nmL S₉ e4 (g_item S₉ LW₈ rfl hv9 (by omega) ?_))))
    refine ⟨h₉, _, b₈, wd, tw, rfl, rfl, S₉, fun o10 h₁₀ tk₁₁ ho10 S₁₀ => spliced_nil ?_⟩
    obtain ⟨b₁₁, l₁₁, S₁₁, LDd⟩ := S₁₀.fzDic hlod ho10 hDd
    refine ⟨Glb.at (C := ⟨C.h₀, b, h, _⟩) G S₁₁, ?_⟩
    have hil : ins.length ≤ 1000 := by omega
    refine add_callers_spec G.to (by exact hh) (by show A.depth + 1 + 2 < _; omega) S₁₁ (monoD monoI _ _ _ _ l₁₁ hins) ⟨Dd, _, rfl, LDd, .cons ⟨rfl, t10, rfl⟩ .nil⟩ hil fun iv' b₁₂ h₁₂ tk₁₂ l₁₂ S₁₂ hins' => ?_
    refine stL S₁₂ fun h₁₃ tk₁₃ S₁₃ => ?_
    clear S₈ S₉ S₁₀ S₁₁ S₁₂
    -- above = reach(word)
    refine wpAny_execs_cons (wpAny_Assign_Name (Call_ (nmG G.to S₁₃ (by k_is) (callWith_K (Glb.at (C := ⟨C.h₀, b, h, _⟩) G S₁₃) (by k_is) (spliced_cons (nmL S₁₃ e5 (spliced_nil ⟨Glb.at (C := ⟨C.h₀, b, h, _⟩) G S₁₃, ?_⟩)))))))
    refine reach_spec G.to (by show A.depth + 1 + 4 < _; omega) S₁₃ hok fun b₁₄ h₁₄ t14 tk₁₄ l₁₄ S₁₄ => stL S₁₄ fun h₁₅ tk₁₅ S₁₅ => ?_
    clear S₁₃ S₁₄
    have l₁₅ : b₈.Le b₁₄ := l₁₁.trans (l₁₂.trans l₁₄)
    have hins'' := monoD monoI _ _ _ _ l₁₄ hins'
    -- if ne(above, word)
    have hkk : ∃ k', kk = k' + 1 := ⟨kk - 1, by omega⟩
    obtain ⟨k', rfl⟩ := hkk
    have hDI := hD₈
    obtain ⟨u1, u2, hI₈⟩ := hD₈
    -- the statement that ends the turn: word = lexer.get_token()
    refine wpAny_execs_cons (wpAny_If (isTrue_plain (Call_ (nmG G.to S₁₅ (by k_is) (callWith_K (Glb.at (C := ⟨C.h₀, b, h, _⟩) G S₁₅) (by k_is) (spliced_cons (nmL S₁₅ rfl (spliced_cons (nmL S₁₅ e5 (spliced_nil ⟨Glb.at (C := ⟨C.h₀, b, h, _⟩) G S₁₅, ?_⟩))))))))))
    refine ne_spec G.to (by show A.depth + 1 + 2 < _; omega) S₁₅ fun b₁₆ h₁₆ tk₁₆ l₁₆ S₁₆ => wpAny_truthy_bool ?_
    clear S₁₅
    have l₈₆ := l₁₅.trans l₁₆
    have K₁₆ := K₈.le l₈₆
    have X₁₆ := Glb.at (C := ⟨C.h₀, b, h, _⟩) G S₁₆
    have hvl : (visit p.2 ins wd).length ≤ ins.length + 1 := putL_length _ _ _
    by_cases hr : reachP wd = wd
    · rw [show (reachP wd != wd) = false by simp [hr]]
      -- turn = add(turn, 1)
      refine wpAny_execs_cons (wpAny_Assign_Name (Call_ (nmG G.to S₁₆ (by k_is) (callWith_K X₁₆ (by k_is) (spliced_cons (nmL S₁₆ e4 (spliced_cons (cInt (k := 0) (pos := ⟨0, 0, 0, 0⟩) fun t17 tk₁₇ => spliced_nil ⟨X₁₆, ?_⟩))))))))
      refine add_spec G.to (by show A.depth + 1 + 2 < _; omega) S₁₆ fun b₁₈ h₁₈ t18 tk₁₈ l₁₈ S₁₈ => stL S₁₈ fun h₁₉ tk₁₉ S₁₉ => wpAny_execs_nil ?_
      clear S₁₆ S₁₈
      have X₁₉ := Glb.at (C := ⟨C.h₀, b, h, _⟩) G S₁₉
      refine wpAny_execs_cons (wpAny_Assign_Name (MethodCall_ (nmL S₁₉ e1 (a_meth X₁₉ (S₁₉.bin _ _ (K₁₆.le l₁₈).inst) (S₁₉.muin (dl, od₈) (by simp)) hI₈ (by k_is) (by k_is) (by k_is) rfl (callWith_K0 X₁₉ (by k_is) ?_)))))
      refine get_token_spec (mr := []) G.to (by exact hh) (by show A.depth + 1 + 8 < _; omega) S₁₉ (K₁₆.le l₁₈) hDI hv₈ hz₈ (by simp) (fun y ps' e => by cases e) fun _ b₂₀ h₂₀ t20 tk₂₀ od₂₀ vs₂₀ k₂₀ line₂₀ l₂₀ hD₂₀ hv₂₀ hc₂₀ hz₂₀ S₂₀ => stL S₂₀ fun h₂₁ tk₂₁ S₂₁ => wpAny_execs_nil ?_
      have hcl : climbs (k' + 1) wd = [wd] := by unfold climbs; rw [if_pos hr]
      rw [hcl] at hbook hlen
      simp only [List.foldl_cons, List.foldl_nil, List.length_singleton] at hbook hlen
      obtain ⟨n2, hJ2, hn2⟩ := bookJ_next (N := N) (R := R) (ins := visit p.2 ins wd) hNB (i := i + 1) (by rw [hdrop']; exact hEnc) (by rw [hdrop']; exact hbook) (by rw [hdrop']; omega)
      refine ⟨n2, by omega, h₂₁, tk₂₁, od₂₀, vs₂₀, k₂₀, _, _, b₂₀, _, t20, _, iv', _, line₂₀, i + 1, t18, rfl, S₂₁, lb₈.trans (l₈₆.trans (l₁₈.trans l₂₀)), hD₂₀, hv₂₀, by rw [hc₂₀, hc₈], hz₂₀, e1, e2, rfl, monoD monoI _ _ _ _ (l₁₆.trans (l₁₈.trans l₂₀)) hins'', rfl, rfl, hJ2⟩
    · rw [show (reachP wd != wd) = true by simp [hr]]
      obtain ⟨hNp, hpl⟩ := hup hr
      -- lexer.push_token(above[1:])
      refine wpAny_execs_cons (wpAny_Expr (MethodCall_ (nmL S₁₆ e1 (a_meth X₁₆ (S₁₆.bin _ _ K₁₆.inst) (S₁₆.muin (dl, od₈) (by simp)) hI₈ (by k_is) (by k_is) (by k_is) rfl (callWith_K X₁₆ (by k_is) (spliced_cons ?_))))))
      have hzr : (reachP wd).length ≤ 100000 := by
        unfold reachP
        have hs : ∀ i, (Txt.slice wd (some i) none).length ≤ 1000 := fun i => Nat.le_trans (Txt.slice_le _ _ _) hz1
        split
        · split
          · have e : ∀ y : Str, (("." : Str) ++ y).length = 1 + y.length := fun y => Str.length_append _ _
            have := hs (Txt.find wd "." + 1)
            rw [e]
            omega
          · omega
        · omega
      refine g_strFrom S₁₆ (nmL S₁₆ rfl (cInt fun t17 tk₁₇ => ⟨_, _, _, _, _, _, _, rfl, rfl, rfl, hzr, S₁₆, fun h₁₇ t18 tk₁₈ S₁₇ => spliced_nil ⟨Glb.at (C := ⟨C.h₀, b, h, _⟩) G S₁₇, ?_⟩⟩))
      clear S₁₆
      refine push_token_spec (lf := lf) (mr := [(lf, lstO vs₈ k₈)]) G.to (by show A.depth + 1 + 3 < _; omega) (S₁₇.perm (.cons _ (List.Perm.swap ..))) K₁₆.inst hDI (by simp) fun b₁₈ h₁₈ tk₁₉ kp₁₈ l₁₈ S₁₈ => ?_
      refine wpAny_execs_nil ?_
      clear S₁₇
      replace S₁₈ := S₁₈.perm (.cons _ (List.Perm.swap ..))
      have X₁₉ := Glb.at (C := ⟨C.h₀, b, h, _⟩) G S₁₈
      refine wpAny_execs_cons (wpAny_Assign_Name (MethodCall_ (nmL S₁₈ e1 (a_meth X₁₉ (S₁₈.bin _ _ (K₁₆.le l₁₈).inst) (S₁₈.muin (dl, od₈) (by simp)) hI₈ (by k_is) (by k_is) (by k_is) rfl (callWith_K0 X₁₉ (by k_is) ?_)))))
      refine get_token_spec (mr := []) G.to (by exact hh) (by show A.depth + 1 + 8 < _; omega) S₁₈ (K₁₆.le l₁₈) hDI hv₈ hz₈ (by simp) ?_ (fun e => by cases e)
      intro y ps' ey b₂₀ h₂₀ tk₂₀ kp₂₀ l₂₀ S₂₀
      simp only [List.nil_append, List.cons.injEq] at ey
      obtain ⟨rfl, rfl⟩ := ey
      refine stL S₂₀ fun h₂₁ tk₂₁ S₂₁ => wpAny_execs_nil ?_
      have hcl : climbs (k' + 1) wd = wd :: climbs k' (parS wd) := by rw [climbs, if_neg hr]
      rw [hcl] at hbook hlen
      simp only [List.foldl_cons, List.length_cons] at hbook hlen
      refine ⟨(B.length - i) * 2000 + k' + 1, by omega, h₂₁, tk₂₁, od₈, vs₈, k₈, _, _, b₂₀, parS wd, _, _, iv', rest₈, line₈, i, ti, rfl, S₂₁, lb₈.trans (l₈₆.trans (l₁₈.trans l₂₀)), hDI, hv₈, hc₈, hz₈, e1, e2, rfl, monoD monoI _ _ _ _ (l₁₆.trans (l₁₈.trans l₂₀)) hins'', e4, rfl,
        .inr ⟨p, Bs, k', hdrop, hNp, by omega, by omega, hEnc, hbook, ?_, rfl⟩⟩
      show (visit p.2 ins wd).length + _ + _ ≤ 900
      omega
end
end Mine

end
section
open PySem PySem.W PyProof.Rows PySem.Calls PySem.Spec
set_option Elab.async false
set_option maxRecDepth 100000
set_option maxHeartbeats 1000000
set_option linter.unusedVariables false
namespace Mine
theorem filled15 : PySem.Challenge.rw_xo0020_01 = PySem.Challenge.rw_xo0020_01 ∧ Mine.hd.heap_39 = Mine.hd.heap_39 := by k_fill; exact ⟨rfl, rfl⟩
theorem All2.set {α β : Type} {R : α → β → Prop} : ∀ {xs : List α} {ys : List β}, All2 R xs ys → ∀ (i : Nat) {x : α} {y : β}, R x y → All2 R (xs.set i x) (ys.set i y)
  | _, _, .nil, i, _, _, _ => .nil
  | _, _, .cons h t, 0, _, _, r => .cons r t
  | _, _, .cons h t, i + 1, _, _, r => .cons h (t.set i r)
theorem fmod_nat (a b : Nat) : ((a : Int)).fmod (b : Int) = ((a % b : Nat) : Int) := by
  rw [Int.fmod_eq_emod_of_nonneg _ (Int.natCast_nonneg b)]; exact (Int.natCast_emod a b).symm
section
variable {prog : Program} {w : World} {A : Around} {E : Value → Shared → Prop} {C : Cx} {L : Addr} {b : Sn} {m mg mb : Str → Option Value} {mu mu1 mu2 : Mu}
  {h h' : Heap} {gs : Array GenState} {dr : Drawn} {tk : Nat} {os : OsState} {env : Env} {x : Str} {pos : Pos} {v : Value}

theorem g_setL {d : Addr} {o : Obj} {vs : List Value} {k : Int} {j : Nat} {t : Tok} {Q : Unit → Shared → Prop} (S : St C L b m (mu1 ++ (d, o) :: mu2) h) (hl : LsO o vs) (hk : k = (j : Int)) (hj : j < vs.length) (hz : vs.length ≤ 1000)
    (q : ∀ o' h', LsO o' (vs.set j v) → St C L b m (mu1 ++ (d, o') :: mu2) h' → Q () ⟨h', gs, dr, tk, os⟩) :
    wpAny (model prog w) A (setItem (.ref d) (.int k t) v) Q E ⟨h, gs, dr, tk, os⟩ := by
  subst hk
  refine wpAny_setItem_list (s := ⟨h, gs, dr, tk, os⟩) (hl.at S (by simp)) (Int.natCast_nonneg j) (by omega) (by simpa using hj) fun h' hL hs => ?_
  obtain ⟨o', ho', hc, n, hd⟩ := hL
  exact q o' h' ⟨hc, n, by rw [hd]; simp⟩ (S.mut ho' fun a x n e => hs.extBut a x n e)

inductive CI : List Expr → List Int → Prop
  | nil : CI [] []
  | cons {n : Int} {k : Nat} {p : Pos} {es : List Expr} {ns : List Int} : CI es ns → CI (.Constant (.int n) k p :: es) (n :: ns)
theorem ints_disp {es : List Expr} {ns : List Int} (c : CI es ns) : ∀ {tk : Nat} {Q : List Value → Shared → Prop}, (∀ vs tk', All2 (IsI b) vs ns → Q vs ⟨h, gs, dr, tk', os⟩) → wpAny (model prog w) A (spliced (backTo pos (starEach es env))) Q E ⟨h, gs, dr, tk, os⟩ := by
  induction c with
  | nil => intro tk Q q; exact spliced_nil (q [] _ .nil)
  | @cons n k p es ns c ih =>
    intro tk Q q
    have e : starEach (Expr.Constant (.int n) k p :: es) env = (false, eval (.Constant (.int n) k p) env) :: starEach es env := by rfl
    rw [e]
    refine spliced_cons (cInt (k := k) (pos := p) fun t tk' => ih fun vs tk'' al => q _ _ (.cons ⟨t, rfl⟩ al))
theorem g_intsL {es : List Expr} {ns : List Int} {p : Pos} {Q : Value → Shared → Prop} (c : CI es ns) (hz : ns.length ≤ 1000) (S : St C L b m mu h)
    (q : ∀ D vs h' tk', D ∉ C.ps → All2 (IsI b) vs ns → St C L b m ((D, lstO vs 0) :: mu) h' → Q (.ref D) ⟨h', gs, dr, tk', os⟩) :
    wpAny (model prog w) A (eval (.List es p) env) Q E ⟨h, gs, dr, tk, os⟩ :=
  List_ (ints_disp c fun vs tk' al => g_newL S (by rw [al.length, sizeLine_eq]; omega) fun D h' hD _ S' => q D vs h' tk' hD al S')

def Big (x : Int) : Prop := -(10 ^ 12) < x ∧ x < 10 ^ 12

theorem seeds_spec {v1 : Value} {ns : List Int} {Q : Value → Shared → Prop} (G : Glb w mg mb C.h₀) (hh : A.handled = none) (hd : A.depth + 3 < recursionLimit) (S : St C L b m mu h) (D1 : LsOf IsI b v1 ns) (hz : ns.length ≤ 1000)
    (q : ∀ r b' h' tk' xs, b.Le b' → St C L b' m mu h' → LsOf IsI b' r xs → (xs.length = 7 ∨ xs.length = 9) → (∀ x ∈ xs, Big x) → Q r ⟨h', gs, dr, tk', os⟩) :
    wpAny (model prog w) A (call (.ref 174) [v1]) Q E ⟨h, gs, dr, tk, os⟩ := by
  obtain ⟨a1, vs1, rfl, L1, al1⟩ := D1
  have n1 := al1.length
  refine own_call (binds := [("script", .ref a1)]) (mv := []) (mr := mu) G S (by omega) (by k_is) (by k_is) (BindsTo.of_eq rfl) ?_
  intro L' h₁ tk₁ S₁
  refine wpAny_execs_cons (wpAny_Assign_Name (g_intsL (ns := [12, 24, 49, 343, 202, 300, 242]) (.cons (.cons (.cons (.cons (.cons (.cons (.cons .nil))))))) (by decide) S₁ fun D vs₂ h₂ tk₂ hD al₂ S₂ => stL S₂ fun h₃ tk₃ S₃ => ?_))
  refine wpAny_execs_cons (wpAny_mono (Q := fun fl s' => fl = .next ∧ ∃ h' tk' m' D o vs xs, s' = ⟨h', gs, dr, tk', os⟩ ∧ D ∉ (⟨C.h₀, b, h, addrs []⟩ : Cx).ps ∧ St ⟨C.h₀, b, h, addrs []⟩ L' b m' [(D, o)] h' ∧ LsO o vs ∧ All2 (IsI b) vs xs ∧ (xs.length = 7 ∨ xs.length = 9) ∧ m' "script" = some (.ref a1) ∧ m' "seeds" = some (.ref D))
    (wpAny_If (wpAny_isTrue_Compare1 (wpAny_BinOp (g_lenE G.to S₃ (by k_is) (nmL S₃ rfl (g_len (L1.at S₃) (by omega) fun t4 tk4 => cInt fun t5 tk5 => i_mod (by decide) fun t6 tk6 => cInt fun t7 tk7 => i_eq (wpAny_truthy_bool ?_))))))) (fun fl s' hfl => ?_) fun _ _ e => e)
  · generalize (((vs1.length : Nat) : Int).fmod 2 == 1) = bb
    cases bb with
    | true =>
      rw [if_pos rfl]
      refine wpAny_execs_cons ?_
      refine wpAny_Assign_Name ?_
      refine g_intsL (ns := [12, 24, 49, 2, 343, 202, 300, 242, 504]) (.cons (.cons (.cons (.cons (.cons (.cons (.cons (.cons (.cons .nil))))))))) (by decide) S₃ ?_
      intro D₂ vs₄ h₄ tk₄ hD₂ al₄ S₄
      refine stL S₄ ?_
      intro h₅ tk₅ S₅
      refine wpAny_execs_nil ?_
      refine ⟨rfl, h₅, tk₅, _, D₂, _, _, [12, 24, 49, 2, 343, 202, 300, 242, 504], rfl, hD₂, St.drop (mu1 := [_]) (mu2 := []) S₅ hD, .lst _ _, ?_, .inr rfl, rfl, rfl⟩
      exact al₄
    | false =>
      rw [if_neg (by decide)]
      refine wpAny_execs_nil ⟨rfl, h₃, _, _, D, _, _, [12, 24, 49, 343, 202, 300, 242], rfl, hD, S₃, .lst _ _, ?_, .inl rfl, rfl, rfl⟩
      exact al₂
  clear S₃ hD
  obtain ⟨rfl, h₅, tk₅, m₅, D, o, vs, xs, rfl, hD, S₅, ho, al, hlen, e1, e2⟩ := hfl
  -- taken
  refine wpAny_execs_cons (wpAny_Assign_Name (g_lstUpto S₅ (nmL S₅ e1 (cInt fun t tk => ⟨_, _, _, _, _, 60, _, rfl, rfl, rfl, by omega, L1.at S₅, S₅, ?_⟩))))
  intro D₂ h₆ tk₆ hD₂ S₆
  refine stL S₆ fun h₇ tk₇ S₇ => ?_
  clear S₅ S₆
  obtain ⟨b₈, l₈, S₈, LT⟩ := S₇.fzLst hD₂
  clear S₇
  have alt : All2 (IsI b) (vs1.take 60) (ns.take 60) := al1.take 60
  have hTl : (vs1.take 60).length ≤ 60 := by rw [List.length_take]; omega
  refine wpAny_execs_cons (wpAny_For (g_rangeE (n := (vs1.take 60).length) G.to S₈ (by k_is) (by omega) (g_lenE G.to S₈ (by k_is) (nmL S₈ rfl (g_len (LT.at S₈) (by omega) fun t₃ tk₃ => ⟨_, _, _, _, rfl, rfl, S₈, ?_⟩)))))
  intro I io b₉ h₉ tk₉ l₉ _ hI S₉ W₉
  refine for_it (W₉ _ hh) S₉ hI (fun i m' mu' b' => m' "seeds" = some (.ref D) ∧ m' "taken" = some (.ref D₂) ∧ ∃ o vs xs, mu' = [(D, o)] ∧ LsO o vs ∧ All2 (IsI b') vs xs ∧ (xs.length = 7 ∨ xs.length = 9)) ⟨e2, rfl, o, vs, xs, rfl, ho, al, hlen⟩ ?_ ?_
  · rintro i v io₁ m₁ mu₁ b₂ h₂ tk₂ hi ⟨ti, rfl⟩ ⟨e1, e2, o, vs, xs, rfl, ho, al, hlen⟩ hb S
    have hvl := al.length
    have hx7 : 7 ≤ vs.length ∧ vs.length ≤ 9 := by omega
    obtain ⟨tv, htv⟩ : ∃ v, (vs1.take 60)[i]? = some v := ⟨(vs1.take 60)[i], by simp only [List.getElem?_eq_getElem hi]⟩
    obtain ⟨tn, htn, tt, rfl⟩ := alt.get htv
    obtain ⟨sv, hsv⟩ : ∃ v, vs[i % vs.length]? = some v := ⟨vs[i % vs.length]'(Nat.mod_lt _ (by omega)), by rw [List.getElem?_eq_getElem (Nat.mod_lt _ (by omega))]⟩
    obtain ⟨sn, hsn, ts, rfl⟩ := al.get hsv
    have hk : ((i : Int)).fmod (vs.length : Int) = ((i % vs.length : Nat) : Int) := fmod_nat i vs.length
    have hlt : i % vs.length < vs.length := Nat.mod_lt _ (by omega)
    refine wpAny_execs_cons (wpAny_AugAssign_Subscript_any (nmL S e1 (wpAny_BinOp (nmL S rfl (g_lenE G.to S (by k_is) (nmL S e1 (g_len (ho.at S (by simp)) (by omega) fun t4 tk4 => i_mod (by omega) fun t5 tk5 => ?_)))))))
    rw [hk]
    refine wpAny_getItem_list (s := ⟨h₂, gs, dr, tk5, os⟩) (ho.at S (by simp)) (Int.natCast_nonneg _) (by omega) (by rw [Int.toNat_natCast]; rw [List.getElem?_toArray]; exact hsv) ?_
    refine Subscript_ (nmL S e2 (nmL S rfl (g_item S (LT.le (l₉.trans hb)) rfl htv (by omega) (i_iadd fun t6 tk6 => ?_))))
    refine g_setL (mu1 := [(I, io₁)]) S ho rfl hlt (by omega) fun o' h' ho' S' => ?_
    exact wpAny_execs_nil (.next S' (Sn.Le.refl _) ⟨e1, e2, o', _, xs.set (i % vs.length) (sn + tn), rfl, ho', al.set _ ⟨t6, rfl⟩, by simpa using hlen⟩)
  · rintro m₁ mu₁ b₂ h₂ tk₂ ⟨e1, e2, o, vs, xs, rfl, ho, al, hlen⟩ hb S
    have hvl := al.length
    obtain ⟨b₃, l₃, S₃, LS⟩ := ho.fz S hD
    clear S
    refine wpAny_execs_cons (wpAny_Return_some (lcE (cl := _) (by with_unfolding_all rfl) rfl (by decide) ?_))
    refine nmL S₃ e1 ?_
    refine it_listO (by exact hh) S₃ LS fun I₂ io₂ h₄ _ hI₂ S₄ W₄ => ?_
    refine lcG S₄ (W₄ _ hh)
      (fun D Cc cells i m' mu' b' => ∃ ys k zs, mu' = [(D, lstO ys k)] ∧ ys.length = i ∧ All2 (IsI b') ys zs ∧ ∀ z ∈ zs, Big z) ?_ ?_ ?_
    · intro D Cc cells Y
      cases Y
      exact ⟨[], 0, [], rfl, rfl, .nil, fun _ h => nomatch h⟩
    · rintro D Cc cells i v io₁ m₁ mu₁ b₄ h₈ tk₈ hi hv - ⟨ys, k, zs, rfl, hyl, hys, hbig⟩ hb S₈ Er K kk
      obtain ⟨n, hn, t, rfl⟩ := al.get hv
      refine wpAny_assign_Name (stL S₈ fun h₉ tk₉ S₉ => ?_)
      refine wpAny_pure (a := true) ?_
      rw [if_pos rfl]
      have fin : ∀ (A' : Around) (z : Int) (tz : Tok) (tkz : Nat), Big z → wpAny (model prog w) A' (call (.builtin "list.append") [.ref D, .int z tz]) (fun _ s₅ => K s₅) Er ⟨h₉, gs, dr, tkz, os⟩ := fun A' z tz tkz hz =>
        g_app (mu1 := [(I₂, io₁)]) (mu2 := []) S₉ (by omega) fun k' h' S' => kk _ _ _ _ _ (Sn.Le.refl _) S' ⟨_, k', zs ++ [z], rfl, by simp [hyl], hys.snoc ⟨tz, rfl⟩, fun y hy => by
          rcases List.mem_append.mp hy with h1 | h1
          · exact hbig y h1
          · rw [List.mem_singleton.mp h1]; exact hz⟩
      refine IfExp_ (wpAny_isTrue_Compare1 (Call_ (nmB G.to S₉ (by k_is) boot_abs (PyProof.Rows.callWith_builtin1 (spliced_cons (nmL S₉ rfl (spliced_nil (call_abs_int fun u tk => ?_))))))))
      refine wpAny_BinOp (cInt fun t1 tk1 => cInt fun t2 tk2 => PyProof.Rows.pow_int (by decide) (by decide) (i_lt (wpAny_truthy_bool ?_)))
      have e12 : ((10 : Int) ^ (12 : Int).toNat) = 1000000000000 := by decide
      rw [e12]
      by_cases hc : (if n < 0 then -n else n) < 1000000000000
      · rw [decide_eq_true hc]
        refine nmL S₉ rfl (fin _ n t _ ?_)
        unfold Big
        split at hc <;> omega
      · rw [decide_eq_false hc]
        refine wpAny_BinOp (nmL S₉ rfl (wpAny_BinOp (cInt fun t1 tk1 => cInt fun t2 tk2 => PyProof.Rows.pow_int (by decide) (by decide) ?_)))
        rw [e12]
        refine i_mod (by decide) fun t3 tk3 => fin _ _ t3 _ ?_
        have h1 := Int.fmod_nonneg_of_pos n (show (0 : Int) < 1000000000000 by decide)
        have h2 := Int.fmod_lt_of_pos n (show (0 : Int) < 1000000000000 by decide)
        unfold Big
        omega
    · rintro D Cc cells m₁ mu₁ b₄ io₁ h' h₈ tk₈ ⟨ys, k, zs, rfl, hyl, hys, hbig⟩ hb S₈ k₁
      refine post_none S₄ hI₂ S₈ k₁ fun h₉ hDp S₉ => ?_
      obtain ⟨b₅, l₅, S₁₀, LR⟩ := S₉.fzLst hDp
      have hzl := hys.length
      exact .intro S₁₀ fun S' => q _ _ _ _ zs S₁₀.b0b S' ⟨D, ys, rfl, LR, hys⟩ (by omega) hbig
end
end Mine

end
section
open PySem PySem.W PyProof.Rows PySem.Calls PySem.Spec
set_option Elab.async false
set_option maxRecDepth 100000
set_option maxHeartbeats 4000000
set_option linter.unusedVariables false
namespace Mine
theorem filled16 : PySem.Challenge.rw_xo0020_01 = PySem.Challenge.rw_xo0020_01 ∧ Mine.hd.heap_39 = Mine.hd.heap_39 := by k_fill; exact ⟨rfl, rfl⟩
def labs : List Str := ["a", "\"", "b\\", " #"]
abbrev PL := List Str × List (Str × List Str) × List (Str × Int)
def plStep (k : Nat) (p : Nat × Int) (s : PL) : PL :=
  (s.1 ++ [(labs.getD k "" ++ ".") ++ s.1.getD p.1 ""], putL s.2.1 ((labs.getD k "" ++ ".") ++ s.1.getD p.1 "") ([(labs.getD k "" ++ ".") ++ s.1.getD p.1 ""] ++ (look s.2.1 (s.1.getD p.1 "")).getD []), putL s.2.2 ((labs.getD k "" ++ ".") ++ s.1.getD p.1 "") p.2)
def plRun : Nat → List (Nat × Int) → PL → PL
  | _, [], s => s
  | k, p :: ps, s => plRun (k + 1) ps (plStep k p s)
theorem plRun_snoc (p : Nat × Int) : ∀ (ps : List (Nat × Int)) (k : Nat) (s : PL), plRun k (ps ++ [p]) s = plStep (k + ps.length) p (plRun k ps s)
  | [], k, s => rfl
  | q :: ps, k, s => by
    show plRun (k + 1) (ps ++ [p]) (plStep k q s) = _
    rw [plRun_snoc p ps]
    show plStep (k + 1 + ps.length) p _ = plStep (k + (ps.length + 1)) p _
    rw [show k + 1 + ps.length = k + (ps.length + 1) by omega]
    rfl
def plInit (top : Str) : PL := ([top], [(top, [top])], [])
def jlOf (hosts : List Int) : List (Nat × Int) := hosts.mapIdx fun i h => ((h.fmod ((i + 1 : Nat) : Int)).toNat, 1 + (if h.fdiv 12 < 0 then -(h.fdiv 12) else h.fdiv 12))
structure PlInv (s : PL) (i : Nat) : Prop where
  len : s.1.length = i + 1
  keys : ∀ n ∈ s.1, (look s.2.1 n).isSome = true
  small : ∀ n ∈ s.1, n.length ≤ 10 + 10 * i
  lads : s.2.1.length ≤ i + 1 ∧ s.2.2.length ≤ i
  lad : ∀ n l, look s.2.1 n = some l → l.length ≤ i + 1
theorem labs_len (k : Nat) : (labs.getD k "").length ≤ 2 := by
  match k with
  | 0 => decide
  | 1 => decide
  | 2 => decide
  | 3 => decide
  | k + 4 => show (("" : Str)).length ≤ 2; decide
theorem strApp (x y : Str) : (x ++ y).length = x.length + y.length := Str.length_append x y
theorem PlInv.step {s : PL} {i : Nat} (I : PlInv s i) (p : Nat × Int) (hp : p.1 ≤ i) : PlInv (plStep i p s) (i + 1) := by
  have hmem : s.1.getD p.1 "" ∈ s.1 := by
    have : p.1 < s.1.length := by rw [I.len]; omega
    rw [List.getD_eq_getElem?_getD, List.getElem?_eq_getElem this]; exact List.getElem_mem this
  have hl := I.small _ hmem
  have hlb := labs_len i
  refine ⟨by simp [plStep, I.len], ?_, ?_, ⟨Nat.le_trans (putL_length _ _ _) (by have := I.lads.1; omega), Nat.le_trans (putL_length _ _ _) (by have := I.lads.2; omega)⟩, ?_⟩
  · intro n hn
    show (look (putL _ _ _) n).isSome = true
    rw [look_putL]
    split
    · rfl
    · rename_i hne
      rcases List.mem_append.mp hn with h1 | h1
      · exact I.keys n h1
      · exact absurd (List.mem_singleton.mp h1) hne
  · intro n hn
    rcases List.mem_append.mp hn with h1 | h1
    · have := I.small n h1; omega
    · rw [List.mem_singleton.mp h1, strApp, strApp]
      have : (("." : Str)).length = 1 := rfl
      omega
  · intro n l hn
    change look (putL _ _ _) n = some l at hn
    rw [look_putL] at hn
    split at hn
    · cases hn
      obtain ⟨l0, hl0⟩ := Option.isSome_iff_exists.mp (I.keys _ hmem)
      have := I.lad _ _ hl0
      rw [hl0]
      simp
      exact this
    · have := I.lad n l hn; omega

section
variable {prog : Program} {w : World} {A : Around} {E : Value → Shared → Prop} {C : Cx} {L : Addr} {b : Sn} {m mg mb : Str → Option Value} {mu mu1 mu2 : Mu}
  {h h' : Heap} {gs : Array GenState} {dr : Drawn} {tk : Nat} {os : OsState} {env : Env} {x : Str} {pos : Pos} {v : Value}

theorem g_itemI {value slice : Expr} {a : Addr} {vs : List Value} {k : Int} {t : Tok} {i : Nat} {Q : Value → Shared → Prop} (hL : h.IsList a vs.toArray) (hk : k = (i : Int)) (hx : vs[i]? = some v) (hz : vs.length ≤ 2 ^ 24) (q : Q v ⟨h, gs, dr, tk, os⟩)
    (hs : subscripted slice false (.ref a) (.int k t) = operate [.ref a, .int k t] (getItem (.ref a) (.int k t)) := by with_unfolding_all rfl) :
    wpAny (model prog w) A (subscriptTail value slice (.ref a) (.int k t)) Q E ⟨h, gs, dr, tk, os⟩ := by
  subst hk
  have hi := (List.getElem?_eq_some_iff.mp hx).1
  exact tail_any (s := ⟨h, gs, dr, tk, os⟩) hL.typeIs slot_list_getitem.lookup (wpAny_getItem_list hL (by omega) (by omega) (by simpa using hx) q) hs

inductive PlcT (C' : Cx) (L' : Addr) (b : Sn) (gs : Array GenState) (dr : Drawn) (os : OsState) (a1 Dlb : Addr) (fl : Flow) (s' : Shared) : Prop
  | mk (efl : fl = .next) (h' : Heap) (tk' : Nat) (m' : Str → Option Value) (top : Str) (tt : Tok) (e : s' = ⟨h', gs, dr, tk', os⟩) (S : St C' L' b m' [] h') (ht : top = ("local" : Str) ∨ top = ("c7.net" : Str))
    (e1 : m' "hosts" = some (.ref a1)) (e2 : m' "labels" = some (.ref Dlb)) (e3 : m' "top" = some (.str top tt)) : PlcT C' L' b gs dr os a1 Dlb fl s'
inductive PlcJ (prog : Program) (w : World) (a1 Dlb Dn Dl Dg : Addr) (s : PL) (i : Nat) (m' : Str → Option Value) (mu' : Mu) (b' : Sn) : Prop
  | mk (e1 : m' "hosts" = some (.ref a1)) (e2 : m' "labels" = some (.ref Dlb)) (e3 : m' "names" = some (.ref Dn)) (e4 : m' "ladders" = some (.ref Dl)) (e5 : m' "lengths" = some (.ref Dg)) (og' ol' : Obj) (kn : Nat) (vn : List Value) (esl esg : List (Str × Value))
    (e : mu' = [(Dg, og'), (Dl, ol'), (Dn, lstO vn kn)]) (aln : All2 (IsS b') vn s.1) (hol : ol'.IsDictOf (PySem.strKind prog w) esl) (all : All2 (fun p q => p.1 = q.1 ∧ LsOf IsS b' p.2 q.2) esl s.2.1)
    (hog : og'.IsDictOf (PySem.strKind prog w) esg) (alg : All2 (fun p q => p.1 = q.1 ∧ IsI b' p.2 q.2) esg s.2.2) (inv : PlInv s i) : PlcJ prog w a1 Dlb Dn Dl Dg s i m' mu' b'

theorem places_spec {v1 : Value} {hosts : List Int} {Q : Value → Shared → Prop} (G : Glb w mg mb C.h₀) (hh : A.handled = none) (hd : A.depth + 3 < recursionLimit) (S : St C L b m mu h) (D1 : LsOf IsI b v1 hosts) (hz : 1 ≤ hosts.length ∧ hosts.length ≤ 4)
    (q : ∀ a vn vl vg b' h' tk' top, b.Le b' → St C L b' m mu h' → (top = ("local" : Str) ∨ top = ("c7.net" : Str)) → TupB b' a [vn, vl, vg] → LsOf IsS b' vn (plRun 0 (jlOf hosts) (plInit top)).1 →
      DcOf prog w (LsOf IsS) b' vl (plRun 0 (jlOf hosts) (plInit top)).2.1 → DcOf prog w IsI b' vg (plRun 0 (jlOf hosts) (plInit top)).2.2 → Q (.ref a) ⟨h', gs, dr, tk', os⟩) :
    wpAny (model prog w) A (call (.ref 181) [v1]) Q E ⟨h, gs, dr, tk, os⟩ := by
  obtain ⟨a1, vs1, rfl, L1, al1⟩ := D1
  have n1 := al1.length
  refine own_call (binds := [("hosts", .ref a1)]) (mv := []) (mr := mu) G S (by omega) (by k_is) (by k_is) (BindsTo.of_eq rfl) ?_
  intro L' h₁ tk₁ S₁
  -- labels
  refine wpAny_execs_cons (wpAny_Assign_Name (List_ (spliced_cons (cStr (k := 0) (pos := ⟨0, 0, 0, 0⟩) fun a0 k0 => spliced_cons (cStr (k := 0) (pos := ⟨0, 0, 0, 0⟩) fun a1' k1 => spliced_cons (cStr (k := 0) (pos := ⟨0, 0, 0, 0⟩) fun a2 k2 => spliced_cons (cStr (k := 0) (pos := ⟨0, 0, 0, 0⟩) fun a3 k3 => spliced_nil ?_)))))))
  refine g_newL S₁ (by rw [sizeLine_eq]; exact Nat.le_of_ble_eq_true rfl) fun Dlb h₂ hDlb _ S₂ => stL S₂ fun h₃ tk₃ S₃ => ?_
  clear S₁ S₂
  obtain ⟨b₃, l₃, S₄, LB⟩ := S₃.fzLst hDlb
  clear S₃
  have allb : All2 (IsS b₃) [Value.str "a" a0, .str "\"" a1', .str "b\\" a2, .str " #" a3] labs := .cons ⟨_, rfl⟩ (.cons ⟨_, rfl⟩ (.cons ⟨_, rfl⟩ (.cons ⟨_, rfl⟩ .nil)))
  generalize hlbv : [Value.str "a" a0, .str "\"" a1', .str "b\\" a2, .str " #" a3] = lbv at *
  have L1₃ := L1.le l₃
  obtain ⟨v0, hv0⟩ : ∃ v, vs1[0]? = some v := ⟨vs1[0]'(by omega), by rw [List.getElem?_eq_getElem (by omega)]⟩
  obtain ⟨z0, hz0, t0, rfl⟩ := al1.get hv0
  -- top
  refine wpAny_execs_cons (wpAny_mono (Q := PlcT ⟨C.h₀, b, h, addrs []⟩ L' b₃ gs dr os a1 Dlb)
    (wpAny_Assign_Name (IfExp_ (wpAny_isTrue_Compare1 (wpAny_BinOp (Subscript_ (nmL S₄ rfl (cInt fun t4 tk4 => g_item (i := 0) S₄ L1₃ rfl hv0 (by omega) (cInt fun t5 tk5 => i_mod (by decide) fun t6 tk6 => cInt fun t7 tk7 => i_eq (wpAny_truthy_bool ?_))))))))) (fun fl s' hfl => ?_) fun _ _ e => e)
  · generalize (z0.fmod 2 == 0) = bb
    cases bb with
    | true =>
      rw [if_pos rfl]
      exact cStr fun t8 tk8 => stL S₄ fun h₅ tk₅ S₅ => ⟨rfl, h₅, _, _, "local", t8, rfl, S₅, .inl rfl, rfl, rfl, rfl⟩
    | false =>
      rw [if_neg (by decide)]
      exact cStr fun t8 tk8 => stL S₄ fun h₅ tk₅ S₅ => ⟨rfl, h₅, _, _, "c7.net", t8, rfl, S₅, .inr rfl, rfl, rfl, rfl⟩
  clear S₄
  obtain ⟨rfl, h₅, tk₅, m₅, top, tt, rfl, S₅, htop, e1, e2, e3⟩ := hfl
  have hztop : top.length ≤ 6 := by rcases htop with rfl | rfl <;> decide
  -- names = [top]
  refine wpAny_execs_cons (wpAny_Assign_Name (List_ (spliced_cons (nmL S₅ e3 (spliced_nil ?_)))))
  refine g_newL S₅ (by rw [sizeLine_eq]; exact Nat.le_of_ble_eq_true rfl) fun Dn h₆ hDn _ S₆ => stL S₆ fun h₇ tk₇ S₇ => ?_
  clear S₅ S₆
  -- ladders = {top: [top]}
  refine wpAny_execs_cons (wpAny_Assign_Name (g_dict1 G.to S₇ fun Dl ol h₈ hDl hlol hol S₈ => ?_))
  refine nmL S₈ e3 (List_ (spliced_cons (nmL S₈ e3 (spliced_nil ?_))))
  refine g_newL S₈ (by rw [sizeLine_eq]; exact Nat.le_of_ble_eq_true rfl) fun Dt h₉ hDt _ S₉ => ?_
  obtain ⟨b₉, l₉, S₁₀, LT⟩ := S₉.fzLst hDt
  refine ⟨h₉, _, b₉, top, tt, rfl, rfl, S₁₀, fun ol' h₁₁ tk₁₁ hol' S₁₁ => stL S₁₁ fun h₁₂ tk₁₂ S₁₂ => ?_⟩
  clear S₇ S₈ S₉ S₁₀ S₁₁
  -- lengths = {}
  refine wpAny_execs_cons (wpAny_Assign_Name (g_newD G.to S₁₂ fun Dg og h₁₃ hDg hlog hog S₁₃ => stL S₁₃ fun h₁₄ tk₁₄ S₁₄ => ?_))
  clear S₁₂ S₁₃
  have l₁₄ := l₃.trans l₉
  have L1₁₄ := L1.le l₁₄
  have LB₁₄ := LB.le l₉
  -- the loop
  refine wpAny_execs_cons (wpAny_For (g_rangeE (n := hosts.length) G.to S₁₄ (by k_is) (by omega) (g_lenE G.to S₁₄ (by k_is) (nmL S₁₄ e1 (g_len (L1₁₄.at S₁₄) (by omega) fun t₃ tk₃ => ⟨_, _, _, _, rfl, by rw [n1], S₁₄, ?_⟩)))))
  intro I io b₁₅ h₁₅ tk₁₅ l₁₅ _ hI S₁₅ W₁₅
  have init : PlInv (plInit top) 0 := ⟨rfl, fun n hn => by rw [List.mem_singleton.mp hn]; simp [plInit, look_cons], fun n hn => by rw [List.mem_singleton.mp hn]; omega, ⟨Nat.le_refl _, Nat.le_refl _⟩, fun n l e => by
    change look [(top, [top])] n = some l at e
    rw [look_cons] at e
    split at e
    · cases e; simp
    · cases e⟩
  refine for_it (W₁₅ _ hh) S₁₅ hI (fun i => PlcJ prog w a1 Dlb Dn Dl Dg (plRun 0 ((jlOf hosts).take i) (plInit top)) i)
    ⟨e1, e2, rfl, rfl, rfl, og, ol', 0, _, _, _, rfl, .cons ⟨tt, rfl⟩ .nil, hol', .cons ⟨rfl, Dt, _, rfl, LT.le l₁₅, .cons ⟨tt, rfl⟩ .nil⟩ .nil, hog, .nil, init⟩ ?_ ?_
  · rintro i v io₁ m₁ mu₁ b₂ h₂ tk₂ hi ⟨ti, rfl⟩ ⟨e1, e2, e3, e4, e5, og', ol', kn, vn, esl, esg, rfl, aln, hol, all, hog, alg, inv⟩ hb S
    obtain ⟨z, hz'⟩ : ∃ z, hosts[i]? = some z := ⟨hosts[i], by rw [List.getElem?_eq_getElem hi]⟩
    obtain ⟨zv, hzv, tz, rfl⟩ := al1.get' hz'
    have hjl : (jlOf hosts)[i]? = some ((z.fmod ((i + 1 : Nat) : Int)).toNat, 1 + (if z.fdiv 12 < 0 then -(z.fdiv 12) else z.fdiv 12)) := by simp [jlOf, List.getElem?_mapIdx, hz']
    have hsnoc : plRun 0 ((jlOf hosts).take (i + 1)) (plInit top) = plStep i ((z.fmod ((i + 1 : Nat) : Int)).toNat, 1 + (if z.fdiv 12 < 0 then -(z.fdiv 12) else z.fdiv 12)) (plRun 0 ((jlOf hosts).take i) (plInit top)) := by
      rw [List.take_add_one, hjl, Option.toList_some, plRun_snoc]
      have : ((jlOf hosts).take i).length = i := by simp [jlOf]; omega
      rw [this, Nat.zero_add]
    rw [hsnoc]
    generalize plRun 0 ((jlOf hosts).take i) (plInit top) = s at *
    have hf1 := Int.fmod_nonneg_of_pos z (show (0 : Int) < ((i + 1 : Nat) : Int) by omega)
    have hf2 := Int.fmod_lt_of_pos z (show (0 : Int) < ((i + 1 : Nat) : Int) by omega)
    have hjeq : z.fmod ((i + 1 : Nat) : Int) = (((z.fmod ((i + 1 : Nat) : Int)).toNat : Nat) : Int) := (Int.toNat_of_nonneg hf1).symm
    generalize hj : (z.fmod ((i + 1 : Nat) : Int)).toNat = j at *
    have hji : j ≤ i := by omega
    have inv' := inv.step (j, 1 + (if z.fdiv 12 < 0 then -(z.fdiv 12) else z.fdiv 12)) hji
    have lb := l₁₄.trans (l₁₅.trans hb)
    have hnl := aln.length
    have hsl := inv.len
    have hDl' : (Dn, lstO vn kn) ∈ [(I, io₁), (Dg, og'), (Dl, ol'), (Dn, lstO vn kn)] := by simp
    have hNL : h₂.IsList Dn vn.toArray := ⟨lstO vn kn, S.muin _ hDl', rfl, kn, rfl⟩
    obtain ⟨ab, hab⟩ : ∃ ab, s.1[j]? = some ab := ⟨s.1[j]'(by omega), by rw [List.getElem?_eq_getElem (by omega)]⟩
    obtain ⟨av, hav, ta, rfl⟩ := aln.get' hab
    have habD : s.1.getD j "" = ab := by rw [List.getD_eq_getElem?_getD, hab]; rfl
    obtain ⟨lbv, hlbv', tl, rfl⟩ : ∃ v, lbv[i]? = some v ∧ ∃ t, v = Value.str (labs.getD i "") t := by
      have hi4 : i < labs.length := by show i < 4; omega
      obtain ⟨v, e, t, r⟩ := allb.get' (i := i) (y := labs[i]'hi4) (by rw [List.getElem?_eq_getElem hi4])
      exact ⟨v, e, t, by rw [r, List.getD_eq_getElem?_getD, List.getElem?_eq_getElem hi4]; rfl⟩
    have hlbl : lbv.length = 4 := allb.length
    -- above
    refine wpAny_execs_cons (wpAny_Assign_Name (Subscript_ (nmL S e3 (wpAny_BinOp (Subscript_ (nmL S e1 (nmL S rfl (g_item S (L1.le lb) rfl hzv (by omega) ?_))))))))
    refine g_lenE G.to S (by k_is) (nmL S e3 (g_len hNL (by omega) fun t4 tk4 => i_mod (by omega) fun t5 tk5 => ?_))
    rw [hnl, hsl]
    refine g_itemI hNL hjeq hav (by omega) ?_
    refine stL S fun h₃ tk₃ S₃ => ?_
    clear S hNL
    -- name
    have hablen := inv.small ab (List.mem_of_getElem? hab)
    have hlablen := labs_len i
    refine wpAny_execs_cons (wpAny_Assign_Name (wpAny_BinOp (wpAny_BinOp (Subscript_ (nmL S₃ e2 (nmL S₃ rfl (g_item S₃ (LB₁₄.le (l₁₅.trans hb)) rfl hlbv' (by omega) ?_)))))))
    refine cStr fun t6 tk6 => SB.add (fun t7 tk7 => nmL S₃ rfl (SB.add (fun t8 tk8 => stL S₃ fun h₄ tk₄ S₄ => ?_) (by rw [sizeLine_eq, strApp]; have : (("." : Str)).length = 1 := rfl; omega))) (by rw [sizeLine_eq]; have : (("." : Str)).length = 1 := rfl; omega)
    clear S₃
    -- names.append(name)
    refine wpAny_execs_cons (wpAny_Expr (MethodCall_ (nmL S₄ e3 (g_appM (o := lstO vn kn) S₄ (by simp) rfl rfl (callWith_method1 (spliced_cons (nmL S₄ rfl (spliced_nil ?_))))))))
    refine g_app (mu1 := [(I, io₁), (Dg, og'), (Dl, ol')]) (mu2 := []) S₄ (by omega) fun kn' h₅ S₅ => ?_
    clear S₄
    -- ladders[name] = [name] + ladders[above]
    obtain ⟨la, hla⟩ := Option.isSome_iff_exists.mp (inv.keys ab (List.mem_of_getElem? hab))
    obtain ⟨lv, hlv, Da, vla, rfl, LDa, alla⟩ := (valueAt_look (k := ab) all).2 la hla
    have hlal := inv.lad ab la hla
    have hvlal := alla.length
    refine wpAny_execs_cons (wpAny_Assign_Subscript (wpAny_BinOp (List_ (spliced_cons (nmL S₅ rfl (spliced_nil ?_))))))
    refine g_newL S₅ (by rw [sizeLine_eq]; exact Nat.le_of_ble_eq_true rfl) fun D1' h₆ hD1' _ S₆ => ?_
    obtain ⟨b₆, l₆, S₇, LD1⟩ := S₆.fzLst hD1'
    clear S₆ S₅
    refine Subscript_ (nmL S₇ e4 (nmL S₇ rfl (g_subMu (o := ol') S₇ (by simp) hol hlv fun tk9 => ?_)))
    refine g_addL S₇ LD1 (LDa.le l₆) (fun D2' h₈ hD2' S₈ => ?_) (by rw [sizeLine_eq]; simp only [List.length_singleton]; omega)
    obtain ⟨b₈, l₈, S₉, LD2⟩ := S₈.fzLst hD2'
    clear S₇ S₈
    refine nmL S₉ e4 (nmL S₉ rfl ?_)
    have hesl := all.length
    have hesg := alg.length
    refine g_setD (mu1 := [(I, io₁), (Dg, og')]) S₉ hol (by rw [sizeLine_eq]; have := inv.lads; omega) fun ol2 h₁₀ tk₁₀ hol2 S₁₀ => ?_
    clear S₉
    -- lengths[name] = 1 + abs(hosts[k] // 12)
    refine wpAny_execs_cons (wpAny_Assign_Subscript (wpAny_BinOp (cInt fun t9 tk9 => Call_ (nmB G.to S₁₀ (by k_is) boot_abs (PyProof.Rows.callWith_builtin1 (spliced_cons (wpAny_BinOp ?_)))))))
    refine Subscript_ (nmL S₁₀ e1 (nmL S₁₀ rfl (g_item S₁₀ (L1.le (lb.trans (l₆.trans l₈))) rfl hzv (by omega) (cInt fun t10 tk10 => i_div (by decide) (by decide) fun t11 tk11 => spliced_nil (call_abs_int fun t12 tk12 => i_add fun t13 tk13 => ?_)))))
    refine nmL S₁₀ e5 (nmL S₁₀ rfl ?_)
    refine g_setD1 S₁₀ hog (by rw [sizeLine_eq]; have := inv.lads; omega) fun og2 h₁₁ tk₁₁ hog2 S₁₁ => ?_
    have l₂₈ := l₆.trans l₈
    refine wpAny_execs_nil (.next S₁₁ l₂₈ ⟨e1, e2, e3, e4, e5, og2, ol2, kn', _, _, _, rfl, ?_, hol2, ?_, hog2, ?_, inv'⟩)
    · show All2 (IsS b₈) _ (s.1 ++ [_])
      rw [habD]
      exact aln.snoc ⟨t8, rfl⟩
    · show All2 _ _ (putL s.2.1 _ _)
      rw [habD, hla]
      exact (all.mono fun _ _ q => ⟨q.1, monoL monoS _ _ _ _ l₂₈ q.2⟩).stored ⟨D2', _, rfl, LD2, (All2.cons ⟨t8, rfl⟩ .nil : All2 (IsS b₈) [_] [_]).append (alla.mono fun _ _ q => q)⟩
    · show All2 _ _ (putL s.2.2 _ _)
      rw [habD]
      exact alg.stored ⟨t13, rfl⟩
  · rintro m₁ mu₁ b₂ h₂ tk₂ ⟨e1, e2, e3, e4, e5, og', ol', kn, vn, esl, esg, rfl, aln, hol, all, hog, alg, inv⟩ hb S
    have hfull : (jlOf hosts).take hosts.length = jlOf hosts := List.take_of_length_le (by simp [jlOf])
    rw [hfull] at aln all alg
    obtain ⟨b₃', l₃', S₃', LG⟩ := S.fzDic hlog hog hDg
    obtain ⟨b₄', l₄', S₄', LL⟩ := S₃'.fzDic hlol hol hDl
    obtain ⟨b₅', l₅', S₅', LN⟩ := S₄'.fzLst hDn
    refine wpAny_execs_cons (wpAny_Return_some (Tuple_ (spliced_cons (nmL S₅' e3 (spliced_cons (nmL S₅' e4 (spliced_cons (nmL S₅' e5 (spliced_nil ?_)))))))))
    refine g_newT S₅' (by rw [sizeLine_eq]; exact Nat.le_of_ble_eq_true rfl) fun Dt' h₆' hDt' _ S₆' => ?_
    obtain ⟨b₇', l₇', S₇', LTu⟩ := S₆'.fzTup hDt'
    have lA := l₃'.trans (l₄'.trans (l₅'.trans l₇'))
    exact .intro S₇' fun S' => q Dt' _ _ _ b₇' _ _ top S₇'.b0b S' htop LTu ⟨Dn, vn, rfl, LN.le l₇', aln⟩ ⟨Dl, esl, rfl, LL.le (l₅'.trans l₇'), all.mono fun _ _ q => ⟨q.1, monoL monoS _ _ _ _ lA q.2⟩⟩ ⟨Dg, esg, rfl, LG.le (l₄'.trans (l₅'.trans l₇')), alg⟩
end
end Mine

end
section
open PySem PySem.W PyProof.Rows PySem.Calls PySem.Spec
set_option Elab.async false
set_option maxRecDepth 100000
set_option maxHeartbeats 4000000
set_option linter.unusedVariables false
namespace Mine
open PySem.Builtin PySem.Builtin.Str
theorem filled17 : PySem.Challenge.rw_xo0020_01 = PySem.Challenge.rw_xo0020_01 ∧ Mine.hd.heap_39 = Mine.hd.heap_39 := by k_fill; exact ⟨rfl, rfl⟩
def sL (l : List Nat) : Str := ⟨l.toArray⟩
theorem sL_app (l l' : List Nat) : sL l ++ sL l' = sL (l ++ l') := by
  show (⟨l.toArray ++ l'.toArray⟩ : Str) = ⟨(l ++ l').toArray⟩
  rw [List.append_toArray]
theorem sL_len (l : List Nat) : (sL l).length = l.length := by show l.toArray.size = _; simp
theorem sL_of (y : Str) : sL y.cps.toList = y := by show (⟨y.cps.toList.toArray⟩ : Str) = y; simp
theorem chS_sL (c : Nat) : chS c = sL [c] := rfl
def isSp (c : Nat) : Bool := Txt.contains "\"\\ " (chS c)
def escC (c : Nat) : List Nat := if isSp c = true then [92, c] else [c]
def encL (y : Str) (q : Bool) (sep : Nat) : List Nat := (if q = true then [34] ++ y.cps.toList.flatMap escC ++ [34] else y.cps.toList.flatMap escC) ++ [sep]
def bwOf (y : Int) : Int := if y.fdiv 160 < 0 then -(y.fdiv 160) else y.fdiv 160
def bqOf (y : Int) : Bool := (y.fdiv 20).fmod 2 == 0
def bsOf (y : Int) : Nat := ([10, 9, 13, 32] : List Nat).getD ((y.fdiv 40).fmod 4).toNat 10
def bpOf (names : List Str) (y : Int) : Str := names.getD (y.fmod (names.length : Int)).toNat ""
def balOf (names : List Str) (ys : List Int) : List (Str × Int) := ys.map fun y => (bpOf names y, bwOf y)
def txtOf (names : List Str) (ys : List Int) : List Nat := ys.flatMap fun y => encL (bpOf names y) (bqOf y) (bsOf y)
theorem escC_len (c : Nat) : (escC c).length ≤ 2 := by unfold escC; split <;> simp
theorem esc_len (l : List Nat) : (l.flatMap escC).length ≤ 2 * l.length := by
  induction l with
  | nil => simp
  | cons c l ih => rw [List.flatMap_cons, List.length_append, List.length_cons]; have := escC_len c; omega
theorem encL_len (y : Str) (q : Bool) (sep : Nat) : (encL y q sep).length ≤ 2 * y.length + 3 := by
  have h : (y.cps.toList.flatMap escC).length ≤ 2 * y.length := by have := esc_len y.cps.toList; simpa [Str.length] using this
  unfold encL
  split
  · simp only [List.length_append, List.length_singleton]; omega
  · simp only [List.length_append, List.length_singleton]; omega
theorem take_flat_succ {α β : Type} {f : α → List β} {l : List α} {i : Nat} {a : α} (h : l[i]? = some a) : (l.take (i + 1)).flatMap f = (l.take i).flatMap f ++ f a := by
  rw [List.take_add_one, h]; simp

section
variable {prog : Program} {w : World} {A : Around} {E : Value → Shared → Prop} {C : Cx} {L : Addr} {b : Sn} {m mg mb : Str → Option Value} {mu mu1 mu2 : Mu}
  {h h' : Heap} {gs : Array GenState} {dr : Drawn} {tk : Nat} {os : OsState} {env : Env} {x : Str} {pos : Pos} {v : Value}

theorem ballots_spec {v1 v2 : Value} {ys : List Int} {names : List Str} {Q : Value → Shared → Prop} (G : Glb w mg mb C.h₀) (hh : A.handled = none) (hd : A.depth + 3 < recursionLimit) (S : St C L b m mu h) (D1 : LsOf IsI b v1 ys) (D2 : LsOf IsS b v2 names)
    (hz : ys.length ≤ 10) (hn : 1 ≤ names.length ∧ names.length ≤ 100) (hnl : ∀ n ∈ names, n.length ≤ 100)
    (q : ∀ a vb b' h' tk' tt, b.Le b' → St C L b' m mu h' → TupB b' a [vb, .str (sL (txtOf names ys)) tt] → LsOf (TpOf IsS IsI) b' vb (balOf names ys) → Q (.ref a) ⟨h', gs, dr, tk', os⟩) :
    wpAny (model prog w) A (call (.ref 188) [v1, v2]) Q E ⟨h, gs, dr, tk, os⟩ := by
  obtain ⟨a1, vs1, rfl, L1, al1⟩ := D1
  obtain ⟨a2, vs2, rfl, L2, al2⟩ := D2
  have n1 := al1.length
  have n2 := al2.length
  refine own_call (binds := [("numbers", .ref a1), ("names", .ref a2)]) (mv := []) (mr := mu) G S (by omega) (by k_is) (by k_is) (BindsTo.of_eq rfl) ?_
  intro L' h₁ tk₁ S₁
  refine wpAny_execs_cons (wpAny_Assign_Name (List_ (spliced_nil (g_newL S₁ (by simp) fun D h₂ hD _ S₂ => stL S₂ fun h₃ tk₃ S₃ => ?_))))
  clear S₁ S₂
  refine wpAny_execs_cons (wpAny_Assign_Name (cStr fun t4 tk4 => stL S₃ fun h₄ tk₄ S₄ => ?_))
  clear S₃
  refine wpAny_execs_cons (wpAny_For (nmL S₄ rfl (it_list (by exact hh) S₄ L1 fun I io h₅ _ hI S₅ W₅ => ?_)))
  refine for_it (W₅ _ hh) S₅ hI (fun i m' mu' b' => m' "names" = some (.ref a2) ∧ m' "ballots" = some (.ref D) ∧ (∃ tt, m' "text" = some (.str (sL (txtOf names (ys.take i))) tt)) ∧ (txtOf names (ys.take i)).length ≤ 300 * i ∧
      ∃ vb k, mu' = [(D, lstO vb k)] ∧ vb.length ≤ i ∧ All2 (TpOf IsS IsI b') vb (balOf names (ys.take i))) ⟨rfl, rfl, ⟨t4, rfl⟩, Nat.le_refl _, [], 0, rfl, Nat.le_refl _, .nil⟩ ?_ ?_
  · rintro i v io₁ m₁ mu₁ b₂ h₂ tk₂ hi hv ⟨e1, e2, ⟨tt, e3⟩, htl, vb, k, rfl, hvb, alb⟩ hb S
    obtain ⟨y, hy, ty, rfl⟩ := al1.get hv
    have hf1 := Int.fmod_nonneg_of_pos y (show (0 : Int) < (names.length : Int) by omega)
    have hf2 := Int.fmod_lt_of_pos y (show (0 : Int) < (names.length : Int) by omega)
    have hjeq : y.fmod (names.length : Int) = (((y.fmod (names.length : Int)).toNat : Nat) : Int) := (Int.toNat_of_nonneg hf1).symm
    have hbp : bpOf names y = names.getD (y.fmod (names.length : Int)).toNat "" := rfl
    have hbal : balOf names (ys.take (i + 1)) = balOf names (ys.take i) ++ [(bpOf names y, bwOf y)] := by simp [balOf, List.take_add_one, hy]
    have htxt : txtOf names (ys.take (i + 1)) = txtOf names (ys.take i) ++ encL (bpOf names y) (bqOf y) (bsOf y) := take_flat_succ hy
    rw [hbal, htxt]
    generalize hbp' : bpOf names y = place at *
    generalize txtOf names (ys.take i) = text at *
    generalize hj : (y.fmod (names.length : Int)).toNat = j at *
    obtain ⟨pl, hpl⟩ : ∃ p, names[j]? = some p := ⟨names[j]'(by omega), by rw [List.getElem?_eq_getElem (by omega)]⟩
    have hplace : place = pl := by rw [hbp, List.getD_eq_getElem?_getD, hpl]; rfl
    subst hplace
    have hplen := hnl place (List.mem_of_getElem? hpl)
    obtain ⟨pv, hpv, tp, rfl⟩ := al2.get' hpl
    have L2₂ := L2.le hb
    -- place
    refine wpAny_execs_cons (wpAny_Assign_Name (Subscript_ (nmL S e1 (wpAny_BinOp (nmL S rfl (g_lenE G.to S (by k_is) (nmL S e1 (g_len (L2₂.at S) (by omega) fun t5 tk5 => i_mod (by omega) fun t6 tk6 => ?_))))))))
    rw [n2]
    refine g_item S L2₂ hjeq hpv (by omega) (stL S fun h₃ tk₃ S₃ => ?_)
    clear S
    -- ballots.append((place, abs(y // 160)))
    refine wpAny_execs_cons (wpAny_Expr (MethodCall_ (nmL S₃ e2 (g_appM (o := lstO vb k) S₃ (by simp) rfl rfl (callWith_method1 (spliced_cons ?_))))))
    refine Tuple_ (k := 0) (spliced_cons (nmL S₃ rfl (spliced_cons ?_)))
    refine Call_ (nmB G.to S₃ (by k_is) boot_abs (PyProof.Rows.callWith_builtin1 (spliced_cons (wpAny_BinOp (nmL S₃ rfl (cInt fun t7 tk7 => i_div (by decide) (by decide) fun t8 tk8 => spliced_nil (call_abs_int fun t9 tk9 => spliced_nil ?_)))))))
    refine g_newT S₃ (by rw [sizeLine_eq]; exact Nat.le_of_ble_eq_true rfl) fun T h₆ hT _ S₆ => spliced_nil ?_
    obtain ⟨b₇, l₇, S₇, LTu⟩ := S₆.fzTup hT
    clear S₃ S₆
    refine g_app (mu1 := [(I, io₁)]) (mu2 := []) S₇ (by omega) fun k' h₈ S₈ => ?_
    clear S₇
    -- word
    refine wpAny_execs_cons (wpAny_Assign_Name (cStr fun t10 tk10 => stL S₈ fun h₉ tk₉ S₉ => ?_))
    clear S₈
    refine wpAny_execs_cons (wpAny_For (nmL S₉ rfl (it_str S₉ fun I₂ io₂ h₁₀ _ hI₂ S₁₀ W₁₀ => ?_)))
    refine for_it (W₁₀ _ hh) S₁₀ hI₂ (fun jj m' mu' b' => m' "names" = some (.ref a2) ∧ m' "ballots" = some (.ref D) ∧ m' "text" = some (.str (sL text) tt) ∧ m' "y" = some (.int y ty) ∧ mu' = [(I, io₁), (D, lstO (vb ++ [.ref T]) k')] ∧ ∃ tw, m' "word" = some (.str (sL ((place.cps.toList.take jj).flatMap escC)) tw))
      ⟨e1, e2, e3, rfl, rfl, t10, rfl⟩ ?_ ?_
    · rintro jj v io₃ m₃ mu₃ b₃ h₁₁ tk₁₁ hjj ⟨c, u, hc, rfl⟩ ⟨e1, e2, e3, e4, rfl, tw, e5⟩ hb₃ S
      have hc' : place.cps.toList[jj]? = some c := by simpa using hc
      rw [take_flat_succ hc']
      have hwl : ((place.cps.toList.take jj).flatMap escC).length ≤ 300 := by
        have := esc_len (place.cps.toList.take jj)
        have h2 : (place.cps.toList.take jj).length ≤ place.length := by
          rw [List.length_take]
          have : place.cps.toList.length = place.length := by simp [Str.length]
          omega
        omega
      generalize (place.cps.toList.take jj).flatMap escC = wl at *
      refine wpAny_execs_cons (wpAny_If (wpAny_isTrue_Compare1 (nmL S rfl (cStr fun t11 tk11 => SB.contains (wpAny_truthy_bool ?_)))))
      have hcond : Txt.contains "\"\\ " ⟨#[c]⟩ = isSp c := rfl
      rw [hcond]
      unfold escC
      cases hsp : isSp c with
      | true =>
        rw [if_pos rfl, if_pos rfl]
        refine wpAny_execs_cons (wpAny_AugAssign_Name (ldL S e5 (cStr fun t12 tk12 => SB.iadd (fun t13 tk13 => stL S fun h₁₂ tk₁₂ S₁₂ => wpAny_execs_nil ?_) (by rw [sizeLine_eq, sL_len]; have : (("\\" : Str)).length = 1 := rfl; omega))))
        refine wpAny_execs_cons (wpAny_AugAssign_Name (ldL S₁₂ rfl (nmL S₁₂ rfl (SB.iadd (fun t14 tk14 => stL S₁₂ fun h₁₃ tk₁₃ S₁₃ => wpAny_execs_nil ?_) (by rw [sizeLine_eq, strApp, sL_len]; have : (("\\" : Str)).length = 1 := rfl; have : (⟨#[c]⟩ : Str).length = 1 := rfl; omega)))))
        exact .next S₁₃ (Sn.Le.refl _) ⟨e1, e2, e3, e4, rfl, t14, by
          have : sL (wl ++ [92, c]) = (sL wl ++ ("\\" : Str)) ++ (⟨#[c]⟩ : Str) := by
            rw [show ("\\" : Str) = sL [92] from rfl, show (⟨#[c]⟩ : Str) = sL [c] from rfl, sL_app, sL_app, List.append_assoc]; rfl
          rw [this]; rfl⟩
      | false =>
        rw [if_neg (by decide), if_neg (by decide)]
        refine wpAny_execs_nil (wpAny_execs_cons (wpAny_AugAssign_Name (ldL S e5 (nmL S rfl (SB.iadd (fun t14 tk14 => stL S fun h₁₃ tk₁₃ S₁₃ => wpAny_execs_nil ?_) (by rw [sizeLine_eq, sL_len]; have : (⟨#[c]⟩ : Str).length = 1 := rfl; omega))))))
        exact .next S₁₃ (Sn.Le.refl _) ⟨e1, e2, e3, e4, rfl, t14, by
          have : sL (wl ++ [c]) = sL wl ++ (⟨#[c]⟩ : Str) := by rw [show (⟨#[c]⟩ : Str) = sL [c] from rfl, sL_app]
          rw [this]; rfl⟩
    · rintro m₃ mu₃ b₃ h₁₁ tk₁₁ ⟨e1, e2, e3, e4, rfl, tw, e5⟩ hb₃ S
      have hfull : place.cps.toList.take place.cps.size = place.cps.toList := List.take_of_length_le (by simp)
      rw [hfull] at e5
      have hwl : (place.cps.toList.flatMap escC).length ≤ 200 := by
        have := esc_len place.cps.toList
        have h2 : place.cps.toList.length = place.length := by simp [Str.length]
        omega
      refine wpAny_execs_cons (wpAny_mono (Q := fun fl s' => fl = .next ∧ ∃ h' tk' m' tw, s' = ⟨h', gs, dr, tk', os⟩ ∧ St ⟨C.h₀, b, h, addrs []⟩ L' b₃ m' [(I, io₁), (D, lstO (vb ++ [.ref T]) k')] h' ∧ m' "names" = some (.ref a2) ∧ m' "ballots" = some (.ref D) ∧ m' "text" = some (.str (sL text) tt) ∧ m' "y" = some (.int y ty) ∧
          m' "word" = some (.str (sL (if bqOf y = true then [34] ++ place.cps.toList.flatMap escC ++ [34] else place.cps.toList.flatMap escC)) tw))
        (wpAny_If (wpAny_isTrue_Compare1 (wpAny_BinOp (wpAny_BinOp (nmL S e4 (cInt fun t11 tk11 => i_div (by decide) (by decide) fun t12 tk12 => cInt fun t13 tk13 => i_mod (by decide) fun t14 tk14 => cInt fun t15 tk15 => i_eq (wpAny_truthy_bool ?_))))))) (fun fl s' hfl => ?_) fun _ _ e => e)
      · have hq : ((y.fdiv 20).fmod 2 == 0) = bqOf y := rfl
        rw [hq]
        cases bqOf y with
        | true =>
          rw [if_pos rfl]
          refine wpAny_execs_cons (wpAny_Assign_Name (wpAny_BinOp (wpAny_BinOp (cStr fun t16 tk16 => nmL S e5 (SB.add (fun t17 tk17 => cStr fun t18 tk18 => SB.add (fun t19 tk19 => stL S fun h₁₂ tk₁₂ S₁₂ => wpAny_execs_nil ?_) (by rw [sizeLine_eq, strApp, sL_len]; have : (("\"" : Str)).length = 1 := rfl; omega)) (by rw [sizeLine_eq, sL_len]; have : (("\"" : Str)).length = 1 := rfl; omega))))))
          refine ⟨rfl, h₁₂, _, _, t19, rfl, S₁₂, e1, e2, e3, e4, ?_⟩
          have : sL ([34] ++ place.cps.toList.flatMap escC ++ [34]) = (("\"" : Str) ++ sL (place.cps.toList.flatMap escC)) ++ ("\"" : Str) := by
            rw [show ("\"" : Str) = sL [34] from rfl, sL_app, sL_app]
          rw [if_pos rfl, this]
          rfl
        | false =>
          rw [if_neg (by decide)]
          refine wpAny_execs_nil ⟨rfl, h₁₁, _, _, tw, rfl, S, e1, e2, e3, e4, ?_⟩
          rw [if_neg (by decide)]
          exact e5
      clear S
      obtain ⟨rfl, h₁₂, tk₁₂, m₄, tw, rfl, S, e1, e2, e3, e4, e5⟩ := hfl
      have hel := encL_len place (bqOf y) (bsOf y)
      have henc : encL place (bqOf y) (bsOf y) = (if bqOf y = true then [34] ++ place.cps.toList.flatMap escC ++ [34] else place.cps.toList.flatMap escC) ++ [bsOf y] := rfl
      rw [henc] at hel ⊢
      generalize (if bqOf y = true then [34] ++ place.cps.toList.flatMap escC ++ [34] else place.cps.toList.flatMap escC) = wl at *
      simp only [List.length_append, List.length_singleton] at hel
      have g1 := Int.fmod_nonneg_of_pos (y.fdiv 40) (show (0 : Int) < 4 by decide)
      have g2 := Int.fmod_lt_of_pos (y.fdiv 40) (show (0 : Int) < 4 by decide)
      have hitem : Txt.item "\n\t\r " ((y.fdiv 40).fmod 4) = sL [bsOf y] := by
        unfold bsOf
        have : (y.fdiv 40).fmod 4 = 0 ∨ (y.fdiv 40).fmod 4 = 1 ∨ (y.fdiv 40).fmod 4 = 2 ∨ (y.fdiv 40).fmod 4 = 3 := by omega
        rcases this with e | e | e | e <;> rw [e] <;> decide
      refine wpAny_execs_cons (wpAny_AugAssign_Name (ldL S e3 (wpAny_BinOp (nmL S e5 (Subscript_ (cStr fun t16 tk16 => wpAny_BinOp (wpAny_BinOp (nmL S e4 (cInt fun t17 tk17 => i_div (by decide) (by decide) fun t18 tk18 => cInt fun t19 tk19 => i_mod (by decide) fun t20 tk20 => ?_)))))))))
      have hl4 : (("\n\t\r " : Str)).length = 4 := rfl
      refine PyProof.Rows.item_str (by unfold fitsSsize; simp; omega) (by rw [hl4]; omega) (by rw [hl4]; omega) fun _ => ?_
      rw [hitem]
      refine SB.add (fun t21 tk21 => SB.iadd (fun t22 tk22 => stL S fun h₁₃ tk₁₃ S₁₃ => wpAny_execs_nil ?_) (by rw [sizeLine_eq, strApp, sL_len, sL_len, sL_len]; simp only [List.length_singleton]; omega)) (by rw [sizeLine_eq, sL_len, sL_len]; simp only [List.length_singleton]; omega)
      refine .next S₁₃ (l₇.trans hb₃) ⟨e1, e2, ⟨t22, ?_⟩, by simp only [List.length_append, List.length_singleton]; omega, _, k', rfl, by simp; omega, ?_⟩
      · have : sL (text ++ (wl ++ [bsOf y])) = sL text ++ (sL wl ++ sL [bsOf y]) := by rw [sL_app, sL_app]
        rw [this]; rfl
      · exact (alb.mono fun _ _ q => monoT monoS monoI _ _ _ _ (l₇.trans hb₃) q).snoc ⟨T, _, _, rfl, LTu.le hb₃, ⟨tp, rfl⟩, ⟨t9, rfl⟩⟩
  · rintro m₁ mu₁ b₂ h₂ tk₂ ⟨e1, e2, ⟨tt, e3⟩, htl, vb, k, rfl, hvb, alb⟩ hb S
    rw [n1, List.take_length] at e3 alb
    obtain ⟨b₃, l₃, S₃, LB⟩ := S.fzLst hD
    refine wpAny_execs_cons (wpAny_Return_some (Tuple_ (spliced_cons (nmL S₃ e2 (spliced_cons (nmL S₃ e3 (spliced_nil ?_)))))))
    refine g_newT S₃ (by rw [sizeLine_eq]; exact Nat.le_of_ble_eq_true rfl) fun Dt' h₆' hDt' _ S₆' => ?_
    obtain ⟨b₇', l₇', S₇', LTu⟩ := S₆'.fzTup hDt'
    exact .intro S₇' fun S' => q Dt' _ b₇' _ _ tt S₇'.b0b S' LTu ⟨D, vb, rfl, LB.le l₇', alb.mono fun _ _ q => monoT monoS monoI _ _ _ _ (l₃.trans l₇') q⟩
end
end Mine

end
section
open PySem PySem.W PyProof.Rows PySem.Calls PySem.Spec
set_option Elab.async false
set_option maxRecDepth 100000
set_option maxHeartbeats 4000000
set_option linter.unusedVariables false
namespace Mine
theorem filled18 : PySem.Challenge.rw_xo0020_01 = PySem.Challenge.rw_xo0020_01 ∧ Mine.hd.heap_39 = Mine.hd.heap_39 := by k_fill; exact ⟨rfl, rfl⟩
section
variable {prog : Program} {w : World} {A : Around} {E : Value → Shared → Prop} {C : Cx} {L : Addr} {b : Sn} {m mg mb : Str → Option Value} {mu mu1 mu2 : Mu}
  {h h' : Heap} {gs : Array GenState} {dr : Drawn} {tk : Nat} {os : OsState} {env : Env} {x : Str} {pos : Pos} {v : Value}

theorem tup_go {I T : Addr} {io : Obj} {elts : List Expr} {x1 : Nat} {tp : Pos} {Q : Unit → Shared → Prop} (S : St C L b m ((I, io) :: mu) h) (hI : LIt io) (q : Q () ⟨h, gs, dr, tk, os⟩) :
    wpAny (model prog w) A (letOwnedTupleGo (.Tuple elts x1 tp) (.ref I) (.ref T)) Q E ⟨h, gs, dr, tk, os⟩ := by
  obtain ⟨hc, l, i, hd⟩ := hI
  exact wpAny_letOwnedTupleGo_listiter (s := ⟨h, gs, dr, tk, os⟩) ⟨io, S.muin (I, io) (by simp), hc, hd⟩ q
theorem tup_as {T : Addr} {xk xv : Str} {pk pv tp : Pos} {x1 : Nat} {v1 v2 : Value} {Q : Unit → Shared → Prop} (hh : A.handled = none) (S : St C env.locals b m mu h) (hT : TupB b T [v1, v2])
    (q : ∀ h' tk', St C env.locals b (upd (upd m xk v1) xv v2) mu h' → Q () ⟨h', gs, dr, tk', os⟩)
    (hxk : env.kindOf xk = some .local := by rfl) (hxv : env.kindOf xv = some .local := by rfl) (hp : (env.scope.kind == .class || (env.scope.kind == .module && env.locals != env.globals)) = false := by rfl) :
    wpAny (model prog w) A (assign (.Tuple [.Name xk pk, .Name xv pv] x1 tp) env (.ref T)) Q E ⟨h, gs, dr, tk, os⟩ := by
  refine wpAny_assign_Tuple hh (hT.at S) rfl rfl fun h₃ hx₃ => ?_
  replace hx₃ : Heap.ExtBut h.objs.size h h₃ := hx₃
  have k23 : ∀ a o, h.get? a = some o → h₃.get? a = some o := fun a o e => hx₃ a o (Nat.ne_of_lt (Heap.lt_size e)) e
  have S₂ := S.stay k23
  show wpAny _ _ (do holding [v2] (assign (.Name xk pk) env v1); do holding [] (assign (.Name xv pv) env v2); pure ()) _ _ _
  refine wpAny_bind (wpAny_holding (wpAny_assign_Name (wpAny_storeName_local hxk S₂.ns (fun h₄ hn₄ hs₄ => ?_) hp)))
  have S₃ := S₂.locS hn₄ hs₄
  refine wpAny_bind (wpAny_holding (wpAny_assign_Name (wpAny_storeName_local hxv S₃.ns (fun h₅ hn₅ hs₅ => wpAny_pure ?_) hp)))
  exact q _ _ (S₃.locS hn₅ hs₅)

theorem for_tup {Q : Flow → Shared → Prop} {xk xv : Str} {pk pv pt : Pos} {x1 : Nat} {body : List Stmt} {I : Addr} {io : Obj} {vs : List Value} (hh : A.handled = none) (S : St C env.locals b m ((I, io) :: mu) h) (hI : I ∉ C.ps)
    {n : Nat} (W : IterO prog w A I b n (fun i v => vs[i]? = some v) LIt h)
    (J : Nat → (Str → Option Value) → Mu → Sn → Prop) (h0 : J 0 m mu b)
    (items : ∀ (i : Nat) (v : Value), vs[i]? = some v → ∃ T v1 v2, v = Value.ref T ∧ TupB b T [v1, v2])
    (turn : ∀ i T v1 v2 io₁ m₁ mu₁ b₁ h₁ tk₁, vs[i]? = some (.ref T) → TupB b T [v1, v2] → J i m₁ mu₁ b₁ → b.Le b₁ → St C env.locals b₁ (upd (upd m₁ xk v1) xv v2) ((I, io₁) :: mu₁) h₁ →
      wpAny (model prog w) A (execs body env) (TurnEnd C env.locals I io₁ b₁ (J (i + 1)) gs dr os Q) NE ⟨h₁, gs, dr, tk₁, os⟩)
    (done : ∀ m₁ mu₁ b₁ h₁ tk₁, J n m₁ mu₁ b₁ → b.Le b₁ → St C env.locals b₁ m₁ mu₁ h₁ → Q .next ⟨h₁, gs, dr, tk₁, os⟩)
    (hxk : env.kindOf xk = some .local := by rfl) (hxv : env.kindOf xv = some .local := by rfl) (hp : (env.scope.kind == .class || (env.scope.kind == .module && env.locals != env.globals)) = false := by rfl) :
    codeAny (model prog w) A (.forLoop (.Tuple [.Name xk pk, .Name xv pv] x1 pt) (.ref I) body [] env) (forR prog w A env E Q) ⟨h, gs, dr, tk, os⟩ := by
  obtain ⟨fp, Wst, W, hst, hal, hfp⟩ := W.ex
  refine codeAny_forLoop_any
    (fun k s' => ∃ h' tk' io' m' mu' b' i, s' = ⟨h', gs, dr, tk', os⟩ ∧ Wst i h' ∧ St C env.locals b' m' ((I, io') :: mu') h' ∧ b.Le b' ∧ J i m' mu' b' ∧ i ≤ n ∧ k = n + 1 - i) ?_ (n + 1)
    ⟨h, tk, io, m, mu, b, 0, rfl, hst, S, Sn.Le.refl _, h0, Nat.zero_le _, rfl⟩
  rintro k s' ⟨h', tk', io', m', mu', b', i, rfl, hst', S', hb', hJ, hi, rfl⟩
  by_cases hlt : i < n
  · refine W.item i _ _ _ hlt hst' fun v h₁ tk₁ hP hst₁ hk₁ => ?_
    obtain ⟨io₁, hio₁, hLI⟩ := hal _ _ hst₁
    have S₁ : St C env.locals b' m' ((I, io₁) :: mu') h₁ := St.mut (mu1 := []) S' hio₁ fun a o n e => hk₁ a o (by simpa using n) e
    obtain ⟨T, v1, v2, rfl, hT⟩ := items i v hP
    refine tup_go S₁ hLI (tup_as hh S₁ (hT.le hb') (fun h₂ tk₂ S₂ => ?_) hxk hxv hp)
    refine wpAny_mono (turn i T v1 v2 io₁ m' mu' b' h₂ _ hP hT hJ hb' S₂) (fun fl s₃ he => ?_) fun _ _ e => e.elim
    have fin : (∃ h₂ tk₂ m₂ mu₂ b₂, s₃ = ⟨h₂, gs, dr, tk₂, os⟩ ∧ St C env.locals b₂ m₂ ((I, io₁) :: mu₂) h₂ ∧ b'.Le b₂ ∧ J (i + 1) m₂ mu₂ b₂) →
        ∃ m, m < n + 1 - i ∧ ∃ h' tk' io' m' mu' b' i, s₃ = ⟨h', gs, dr, tk', os⟩ ∧ Wst i h' ∧ St C env.locals b' m' ((I, io') :: mu') h' ∧ b.Le b' ∧ J i m' mu' b' ∧ i ≤ n ∧ m = n + 1 - i := by
      rintro ⟨h₃, tk₃, m₃, mu₃, b₃, rfl, S₃, l₃, J₃⟩
      refine ⟨n + 1 - (i + 1), by omega, h₃, tk₃, io₁, m₃, mu₃, b₃, i + 1, rfl, W.frame _ _ _ hst₁ fun a ha o e => ?_, S₃, hb'.trans l₃, J₃, hlt, rfl⟩
      rcases hfp _ ha with rfl | ⟨o', h1⟩
      · rw [hio₁] at e; cases e; exact S₃.muin _ (List.mem_cons_self ..)
      · have e1 := S₁.bin _ _ (hb' _ _ h1)
        rw [e1] at e; cases e
        exact S₃.bin _ _ (l₃ _ _ (hb' _ _ h1))
    cases fl with
    | ret v => exact he
    | brk => exact he
    | next => exact fin he
    | cont => exact fin he
  · have hin : i = n := by omega
    subst hin
    refine W.done _ _ _ hst' fun h₁ tk₁ hk₁ => wpAny_execs_nil ?_
    have hm : (I, io') ∈ (I, io') :: mu' := List.mem_cons_self ..
    have hne : ∀ p ∈ mu', p.1 ≠ I := (nodup_mid (mu1 := []) S'.mund).1
    have hg : C.g.get? I = none := (S'.mufr _ hm).resolve_left hI
    refine done m' mu' b' h₁ tk₁ hJ hb' ?_
    exact St.off (C' := C) (L' := I) (b' := b) (m' := m) (mu' := mu) (S'.drop0 hI) (Ne.symm (S'.muL _ hm)) (S'.bmu _ hm) hne hg fun a o n e => hk₁ a o (by simpa using n) e

def cmpZ (x y : Int) : Int := if x < y then -1 else if x > y then 1 else 0
def JudgeB (b : Sn) (j : Addr) : Prop := ∃ dj od cl tp t1 t2, b j = some (instObj 55 dj) ∧ b dj = some od ∧ InD od [("comp_select_list", .ref cl)] ∧ LstB b cl [.ref tp] ∧ TupB b tp [.int 1 t1, .int 1 t2]
theorem JudgeB.le {b b' : Sn} {j : Addr} (x : JudgeB b j) (l : b.Le b') : JudgeB b' j := by
  obtain ⟨dj, od, cl, tp, t1, t2, e1, e2, e3, e4, e5⟩ := x
  exact ⟨dj, od, cl, tp, t1, t2, l _ _ e1, l _ _ e2, e3, e4.le l, e5.le l⟩

theorem compare_spec {j ra rb : Addr} {u1 u2 : Value} {x y : Int} {t3 t4 : Tok} {Q : Value → Shared → Prop} (G : Glb w mg mb C.h₀) (hh : A.handled = none) (hd : A.depth + 3 < recursionLimit) (S : St C L b m mu h) (HJ : JudgeB b j)
    (Ta : TupB b ra [u1, .int x t3]) (Tb : TupB b rb [u2, .int y t4])
    (q : ∀ b' h' t tk', b.Le b' → St C L b' m mu h' → Q (.int (cmpZ x y) t) ⟨h', gs, dr, tk', os⟩) :
    wpAny (model prog w) A (call (.ref 52) [.ref j, .ref ra, .ref rb]) Q E ⟨h, gs, dr, tk, os⟩ := by
  obtain ⟨dj, od, cl, tp, t1, t2, e1, e2, e3, e4, e5⟩ := HJ
  refine own_call (binds := [("self", .ref j), ("left", .ref ra), ("right", .ref rb)]) (mv := []) (mr := mu) G S (by omega) (by k_is) (by k_is) (BindsTo.of_eq rfl) ?_
  intro L' h₁ tk₁ S₁
  have X := Glb.at (C := ⟨C.h₀, b, h, _⟩) G S₁
  refine wpAny_execs_cons (wpAny_For (Attribute_any_ (nmL S₁ rfl (a_get X (S₁.bin _ _ e1) (S₁.bin _ _ e2) e3 (by k_is) (by k_is) (by k_is) (by k_is) rfl rfl fun tk₂ => ?_))))
  refine it_listO (by exact hh) S₁ e4 fun I io h₂ _ hI S₂ W₂ => ?_
  refine for_tup (by exact hh) S₂ hI (W₂ _ hh) (fun i m' mu' b' => mu' = [] ∧ m' "left" = some (.ref ra) ∧ m' "right" = some (.ref rb) ∧ (i = 0 ∨ x = y)) ⟨rfl, rfl, rfl, .inl rfl⟩ ?_ ?_ ?_
  · intro i v hv
    cases i with
    | zero => simp at hv; exact ⟨tp, _, _, hv.symm, e5⟩
    | succ i => simp at hv
  · rintro i T v1 v2 io₁ m₁ mu₁ b₁ h₃ tk₃ hv hT ⟨rfl, f1, f2, -⟩ hb S
    have hT2 : T = tp := by
      cases i with
      | zero => simp at hv; exact hv.symm
      | succ i => simp at hv
    subst hT2
    have hvv : v1 = .int 1 t1 ∧ v2 = .int 1 t2 := by
      obtain ⟨o, a1, _, n1, a2⟩ := hT
      obtain ⟨o', c1, _, n2, c2⟩ := e5
      rw [a1] at c1; cases c1
      rw [a2] at c2
      simp at c2
      exact ⟨c2.1.1, c2.1.2⟩
    obtain ⟨rfl, rfl⟩ := hvv
    refine wpAny_execs_cons (wpAny_Assign_Name (Subscript_ (nmL S f1 (nmL S rfl (g_itemT (i := 1) S (Ta.le hb) rfl rfl (by simp) (stL S fun h₄ tk₄ S₄ => ?_))))))
    refine wpAny_execs_cons (wpAny_Assign_Name (Subscript_ (nmL S₄ f2 (nmL S₄ rfl (g_itemT (i := 1) S₄ (Tb.le hb) rfl rfl (by simp) (stL S₄ fun h₅ tk₅ S₅ => ?_))))))
    clear S S₄
    refine wpAny_execs_cons (wpAny_If (wpAny_isTrue_Compare1 (nmL S₅ rfl (nmL S₅ rfl (i_lt (wpAny_truthy_bool ?_))))))
    have S₆ := S₅.drop0 hI
    by_cases c1 : x < y
    · rw [decide_eq_true c1]
      refine wpAny_execs_cons (wpAny_Return_some (UnaryOp_ (nmL S₅ rfl (PyProof.Rows.neg_int ?_))))
      refine Back.intro (b := b) S₆ fun S' => ?_
      have := q _ _ tk₅ (tk₅ + 1) S₆.b0b S'
      unfold cmpZ at this
      rw [if_pos c1] at this
      exact this
    · rw [decide_eq_false c1]
      refine wpAny_execs_nil (wpAny_execs_cons (wpAny_If (wpAny_isTrue_Compare1 (nmL S₅ rfl (nmL S₅ rfl (i_gt (wpAny_truthy_bool ?_)))))))
      by_cases c2 : x > y
      · rw [decide_eq_true c2]
        refine wpAny_execs_cons (wpAny_Return_some (nmL S₅ rfl ?_))
        refine Back.intro (b := b) S₆ fun S' => ?_
        have := q _ _ t2 tk₅ S₆.b0b S'
        unfold cmpZ at this
        rw [if_neg c1, if_pos c2] at this
        exact this
      · rw [decide_eq_false c2]
        exact wpAny_execs_nil (wpAny_execs_nil (.next S₅ (Sn.Le.refl _) ⟨rfl, f1, f2, .inr (by omega)⟩))
  · rintro m₁ mu₁ b₁ h₃ tk₃ ⟨rfl, f1, f2, hxy⟩ hb S
    have hxy' : x = y := by rcases hxy with h1 | h1; exact absurd h1 (by simp); exact h1
    refine wpAny_execs_cons (wpAny_Return_some (cInt fun t tk => ?_))
    refine .intro S fun S' => ?_
    have := q _ _ t tk S.b0b S'
    unfold cmpZ at this
    rw [if_neg (by omega), if_neg (by omega)] at this
    exact this

theorem make_judge {cl tp : Addr} {t1 t2 : Tok} {Q : Value → Shared → Prop} (G : Glb w mg mb C.h₀) (hd : A.depth + 8 < recursionLimit) (S : St C L b m mu h) (Hl : LstB b cl [.ref tp]) (Ht : TupB b tp [.int 1 t1, .int 1 t2])
    (q : ∀ x b' h' tk', b.Le b' → JudgeB b' x → St C L b' m mu h' → Q (.ref x) ⟨h', gs, dr, tk', os⟩) :
    wpAny (model prog w) A (call (.ref 55) [.ref cl]) Q E ⟨h, gs, dr, tk, os⟩ := by
  refine own_make (f := 45) (binds := fun x => [("self", .ref x), ("comp_select_list", .ref cl)]) (mv := []) (mr := mu) G S (by omega) (by k_is) (by k_is) (by k_is) (by k_is) (by k_is) (fun x s => BindsTo.of_eq rfl) ?_
  intro x dx b' hh L' h₁ tk₁ A' hA' lb hx hdx hfr S₁
  refine wpAny_execs_cons (plainObj_wpAny_Assign_Attribute (nmL S₁ rfl (nmL S₁ rfl (a_set (mu1 := []) G.to S₁ (S₁.bin _ _ hx) InD.nil (by simp) (by k_is) (by k_is) (by k_is) (by k_is) fun o₁ h₂ tk₃ i₁ S₂ => ?_))))
  refine wpAny_execs_nil (.intro S₂ fun S' => ⟨rfl, ?_⟩)
  obtain ⟨S₃, l₃⟩ := St.freeze (mu1 := []) S' hdx
  have l := lb.trans l₃
  exact q x _ _ _ l ⟨dx, o₁, cl, tp, t1, t2, l₃ _ _ hx, Sn.put_self .., i₁, Hl.le l, Ht.le l⟩ S₃
end
end Mine

end
section
open PySem PySem.W PyProof.Rows PySem.Calls PySem.Spec
set_option Elab.async false
set_option maxRecDepth 100000
set_option maxHeartbeats 4000000
set_option linter.unusedVariables false
namespace Mine
section
variable {prog : Program} {w : World} {A : Around} {E : Value → Shared → Prop} {C : Cx} {L : Addr} {b : Sn} {m mg mb : Str → Option Value} {mu mu1 mu2 : Mu}
  {h h' : Heap} {gs : Array GenState} {dr : Drawn} {tk : Nat} {os : OsState} {env : Env} {x : Str} {pos : Pos} {v : Value}

theorem look_of_mem {α : Type} : ∀ {kvs : List (Str × α)}, (kvs.map (·.1)).Nodup → ∀ {k : Str} {y : α}, (k, y) ∈ kvs → look kvs k = some y
  | [], _, _, _, h => nomatch h
  | p :: r, nd, k, y, h => by
    rw [look_cons]
    simp only [List.map_cons, List.nodup_cons] at nd
    rcases List.mem_cons.mp h with rfl | h
    · simp
    · rw [if_neg (fun e : p.1 = k => nd.1 (by rw [e]; exact List.mem_map_of_mem (f := fun q => q.1) h))]
      exact look_of_mem nd.2 h

theorem hits_int {A : Around} {s : Shared} {b : Sn} {kb : List (Str × Value)} {kvs : List (Str × Int)} (alb : All2 (fun p q => p.1 = q.1 ∧ IsI b p.2 q.2) kb kvs) (nd : (kvs.map (·.1)).Nodup) :
    ∀ {ka : List (Str × Value)} {kvs' : List (Str × Int)}, All2 (fun p q => p.1 = q.1 ∧ IsI b p.2 q.2) ka kvs' → (∀ p ∈ kvs', p ∈ kvs) → KeqHits A s kb ka true
  | _, _, .nil, _ => .nil
  | (k, v) :: ka, (k', n) :: kvs', .cons ⟨e, t, ev⟩ r, hs => by
    simp only at e ev
    subst e ev
    have hl : look kvs k = some n := look_of_mem nd (hs _ (List.mem_cons_self ..))
    obtain ⟨y, hy, u, rfl⟩ := (valueAt_look (k := k) alb).2 n hl
    have := KeqHits.hit (A := A) (s := s) hy (SeqAt.EqAt.int_int n t n u) (hits_int alb nd r fun p hp => hs p (List.mem_cons_of_mem _ hp))
    simpa using this
theorem g_neD {v1 v2 : Value} {kvs : List (Str × Int)} {Q : Value → Shared → Prop} (S : St C L b m mu h) (D1 : DcOf prog w IsI b v1 kvs) (D2 : DcOf prog w IsI b v2 kvs) (hu : A.units < cLine) (q : Q (.bool false) ⟨h, gs, dr, tk, os⟩) :
    wpAny (model prog w) A (compareOp .NotEq v1 v2) Q E ⟨h, gs, dr, tk, os⟩ := by
  obtain ⟨d1, e1, rfl, L1, a1⟩ := D1
  obtain ⟨d2, e2, rfl, L2, a2⟩ := D2
  have nd : (kvs.map (·.1)).Nodup := a2.keys ▸ L2.nodup
  refine keq_ne (s := ⟨h, gs, dr, tk, os⟩) (r := true) L1.1 L2.1 (L1.at S) (L2.at S) hu (fun _ => hits_int a2 nd a1 fun _ hp => hp) ?_
  rw [a1.length, a2.length]
  simpa using q

theorem g_eqS {v1 v2 : Value} {xs : List Str} {Q : Value → Shared → Prop} (S : St C L b m mu h) (D1 : LsOf IsS b v1 xs) (D2 : LsOf IsS b v2 xs) (hu : A.units < cLine) (q : Q (.bool true) ⟨h, gs, dr, tk, os⟩) :
    wpAny (model prog w) A (compareOp .Eq v1 v2) Q E ⟨h, gs, dr, tk, os⟩ := by
  obtain ⟨d1, e1, rfl, L1, a1⟩ := D1
  obtain ⟨d2, e2, rfl, L2, a2⟩ := D2
  have hl : e1.length = e2.length := a1.length.trans a2.length.symm
  refine SeqAt.eq_listAt (s := ⟨h, gs, dr, tk, os⟩) (e := fun _ => true) (L1.at S) (L2.at S) (by simpa using hl) hu (fun j h1 h2 => ?_) (by rw [List.all_eq_true.mpr (fun _ _ => rfl)]; exact q)
  simp only [List.size_toArray] at h1 h2
  obtain ⟨y, hy, t, e⟩ := a1.get (i := j) (x := e1[j]) (by rw [List.getElem?_eq_getElem h1])
  obtain ⟨y', hy', t', e'⟩ := a2.get (i := j) (x := e2[j]) (by rw [List.getElem?_eq_getElem h2])
  rw [hy] at hy'
  cases hy'
  simp only [List.getElem_toArray]
  rw [e, e']
  have := SeqAt.EqAt.str_str (A := A.in1) (s := ⟨h, gs, dr, tk, os⟩) y t y t'
  simpa using this
/-- `l == []` -/
theorem g_eqE {a c : Addr} {vs : List Value} {Q : Value → Shared → Prop} (ha : h.IsList a vs.toArray) (hc : h.IsList c ([] : List Value).toArray) (hu : A.units < cLine) (q : Q (.bool (decide (vs = []))) ⟨h, gs, dr, tk, os⟩) :
    wpAny (model prog w) A (compareOp .Eq (.ref a) (.ref c)) Q E ⟨h, gs, dr, tk, os⟩ := by
  cases vs with
  | nil => exact SeqAt.eq_listAt (s := ⟨h, gs, dr, tk, os⟩) (e := fun _ => true) ha hc rfl hu (fun j h1 h2 => absurd h1 (by simp)) (by simpa using q)
  | cons v r => exact SeqAt.eq_list_lengthsAt (s := ⟨h, gs, dr, tk, os⟩) ha hc (by simp) hu (by simpa using q)
end
end Mine

end
section
open PySem PySem.W PyProof.Rows PySem.Calls PySem.Spec PySem.Builtin PySem.Builtin.Str
set_option Elab.async false
set_option maxRecDepth 100000
set_option maxHeartbeats 4000000
set_option linter.unusedVariables false
namespace Mine
def gx (gh : Heap) : Cx := ⟨gh, fun a => gh.get? a, gh, []⟩
theorem St.start {gh h : Heap} {L : Addr} {m : Str → Option Value} {news : List (Addr × Obj)} (F : Fr gh L h m) (N : News gh L h news) (nd : (addrs news).Nodup) : St (gx gh) L (fun a => gh.get? a) m news h where
  ns := F.ns
  gL := Heap.get?_none_of_le F.above
  pin := fun a o e _ => F.keep a o e
  b0b := Sn.Le.refl _
  base := fun a o e => e
  bin := fun a o e => F.keep a o e
  bL := Heap.get?_none_of_le F.above
  bmu := fun p hp => (N p hp).2.2
  bnw := fun _ _ e => .inl e
  muin := fun p hp => (N p hp).1
  muL := fun p hp => (N p hp).2.1
  mund := nd
  mufr := fun p hp => .inr (N p hp).2.2
  psin := fun a ha => nomatch ha

theorem nd8 (L : Nat) (h : 190 < L) : [L + 1 + 1 + 1 + 1 + 1 + 1 + 1, L + 1 + 1 + 1 + 1 + 1 + 1, L + 1 + 1 + 1 + 1 + 1, L + 1 + 1 + 1 + 1, L + 1 + 1 + 1, L + 1 + 1, L + 1, 190].Nodup := by
  simp only [List.nodup_cons, List.mem_cons, List.not_mem_nil, or_false, not_or, List.nodup_nil, and_true, not_false_iff]
  omega

section
variable {prog : Program} {w : World} {A : Around} {E : Value → Shared → Prop} {C : Cx} {L : Addr} {b : Sn} {m mg mb : Str → Option Value} {mu mu1 mu2 : Mu}
  {h h' : Heap} {gs : Array GenState} {dr : Drawn} {tk : Nat} {os : OsState} {env : Env} {x : Str} {pos : Pos} {v : Value}
theorem stCF {Q : Unit → Shared → Prop} {c : Addr} {o : Obj} {v₀ : Option Value} (S : St C L b m (mu1 ++ (c, o) :: mu2) h) (hc : env.cells.lookup x = some c) (ho : o.data = .cell v₀) (hps : c ∉ C.ps)
    (q : ∀ b' h', b.Le b' → CelB b' c v → St C L b' m (mu1 ++ mu2) h' → Q () ⟨h', gs, dr, tk, os⟩)
    (hk : env.scope.kind = .function := by rfl) (hx : env.kindOf x = some .cell := by rfl) :
    wpAny (model prog w) A (storeName env x v) Q E ⟨h, gs, dr, tk, os⟩ :=
  stC S hc ho (fun h' o' e' S' _ => let ⟨S₂, l⟩ := S'.freeze hps; q _ h' l (CelB.put e') S₂) hk hx
end

theorem rot5 {α : Type} (a b c d t : α) : [a, b, c, d, t].Perm [t, a, b, c, d] := List.perm_append_comm (l₁ := [a, b, c, d]) (l₂ := [t])
theorem strs_of_all2 {b : Sn} : ∀ {vs : List Value} {xs : List Str}, All2 (IsS b) vs xs → StrsAre vs xs
  | _, _, .nil => .nil
  | _, _, .cons ⟨t, e⟩ r => by subst e; exact .cons _ _ (strs_of_all2 r)
theorem StrB.of {b : Sn} {a : Addr} {xs : List Str} (h : LsOf IsS b (.ref a) xs) : StrB b a xs := by
  obtain ⟨a', vs, e, l, al⟩ := h
  cases e
  exact ⟨vs, l, strs_of_all2 al⟩
theorem StrB.to {b : Sn} {a : Addr} {xs : List Str} (h : StrB b a xs) : LsOf IsS b (.ref a) xs := by
  obtain ⟨vs, l, al⟩ := h
  exact ⟨a, vs, rfl, l, StrsAre.all2 (fun i t => ⟨t, rfl⟩) al⟩

def linksLL (ladders : List (Str × List Str)) (a c : Str) : List Str := linksL ((look ladders a).getD []) ((look ladders c).getD [])

def LawEnd (gh : Heap) (L : Addr) (gs : Array GenState) (dr : Drawn) (os : OsState) (fl : Flow) (s' : Shared) : Prop :=
  ∃ h' tk' b' m' mu' ps, s' = ⟨h', gs, dr, tk', os⟩ ∧ fl = .ret (.bool true) ∧ St (gx gh) L b' m' mu' h' ∧ (190, tabObj ps) ∈ mu'

/-- the plain law, as the walk wants it -/
structure LP (n0 : Str) (ns : List Str) (ladders : List (Str × List Str)) (lengths : List (Str × Int)) (nums : List Int) : Prop where
  zN : ns.length ≤ 90
  small : ∀ n ∈ n0 :: ns, n.length ≤ 100
  nd : (n0 :: ns).Nodup
  up : ∀ wd ∈ n0 :: ns, okH wd = true ∧ (reachP wd ≠ wd → parS wd ∈ n0 :: ns ∧ (parS wd).length < wd.length)
  par : ∀ i n, ns[i]? = some n → okH n = true ∧ parS n ∈ (n0 :: ns).take (i + 1)
  len : ∀ n ∈ ns, ∃ l, look lengths n = some l ∧ -(2 ^ 64) < l ∧ l < 2 ^ 64
  lad : ∀ n ∈ n0 :: ns, ∃ l, look ladders n = some l ∧ l.length ≤ 100
  links : ∀ a ∈ n0 :: ns, ∀ c ∈ n0 :: ns, ∀ x ∈ linksLL ladders a c, (look lengths x).isSome = true
  zB : nums.length ≤ 10
  balN : ∀ p ∈ balOf (n0 :: ns) nums, p.1 ∈ n0 :: ns ∧ -(2 ^ 64) < p.2 ∧ p.2 < 2 ^ 64
  zT : (txtOf (n0 :: ns) nums).length ≤ 100000
  enc : Enc (balOf (n0 :: ns) nums) (txtOf (n0 :: ns) nums)
  vis : vis (balOf (n0 :: ns) nums) ≤ 900
  tot : totalsL n0 ns lengths (bookL (balOf (n0 :: ns) nums) []) = (n0 :: ns).map fun a => (a, (sumWays ((balOf (n0 :: ns) nums).map fun p => linksLL ladders a p.1) (balOf (n0 :: ns) nums) lengths).sum)
  cntT : Txt.count (sL (txtOf (n0 :: ns) nums)) "\n" = cnt (txtOf (n0 :: ns) nums)
  fin : (n0 :: ns).filter (fun a => !(n0 :: ns).any fun c => decide (cmpZ (gl (totalsL n0 ns lengths (bookL (balOf (n0 :: ns) nums) [])) a) (gl (totalsL n0 ns lengths (bookL (balOf (n0 :: ns) nums) [])) c) > 0)) =
    unbeaten ((n0 :: ns).map fun a => (a, (balOf (n0 :: ns) nums).map fun p => linksLL ladders a p.1)) (balOf (n0 :: ns) nums) (n0 :: ns)
end Mine

end
section
open PySem PySem.W PyProof.Rows PySem.Calls PySem.Spec
set_option Elab.async false
set_option maxRecDepth 100000
set_option maxHeartbeats 80000000
set_option linter.unusedVariables false
theorem Mine.main_law (plain : ∀ (xs : List Int) (top : Str), (xs.length = 7 ∨ xs.length = 9) → (∀ x ∈ xs, Mine.Big x) → (top = ("local" : Str) ∨ top = ("c7.net" : Str)) →
    ∃ n0 ns, (Mine.plRun 0 (Mine.jlOf (xs.take (xs.length / 2))) (Mine.plInit top)).1 = n0 :: ns ∧ Mine.LP n0 ns (Mine.plRun 0 (Mine.jlOf (xs.take (xs.length / 2))) (Mine.plInit top)).2.1 (Mine.plRun 0 (Mine.jlOf (xs.take (xs.length / 2))) (Mine.plInit top)).2.2 (xs.drop (xs.length / 2))) :
    PySem.Challenge.rw_xo0020_01.Holds := by
  refine Mine.hd ?_
  k_go0
  all_goals (try k_fold)
  rename Fr (ghostOf _ _) _ _ _ => F0
  rename News (ghostOf _ _) _ _ _ => N0
  rename Top _ _ _ _ _ (ghostOf _ _) => T0
  rename Frag.In _ (ghostOf _ _) => X0
  rename CellsAre _ _ _ => Y0
  rename IntsAre _ _ => I0
  rename _ = (#[] : Array GenState) => hgens
  rename 190 < _ => hlt
  rename Heap.IsList (ghostOf _ _) _ _ => HL
  rename CodeHd _ _ _ => HC
  rename ¬ _ => hlen
  rename Shared => s1
  rename World => w0
  refine wpAny_mono (Q := Mine.LawEnd (ghostOf s1.heap [(194, 190)]) s1.heap.objs.size s1.gens s1.drawn s1.os) (E := Mine.NE) ?_ ?_ (fun _ _ e => e.elim)
  · have S0 := Mine.St.start F0 N0 (Mine.nd8 _ hlt)
    have G0 : Mine.Glb w0 _ _ (Mine.gx (ghostOf s1.heap [(194, 190)])).h₀ := ⟨X0, _, _, _, T0⟩
    have LS : Mine.LsOf Mine.IsI (fun a => (ghostOf s1.heap [(194, 190)]).get? a) (.ref _) _ := ⟨_, _, rfl, (let ⟨o, e, c, n, d⟩ := HL; ⟨o, e, c, n, d⟩), Mine.IntsAre.all2 (fun i t => ⟨t, rfl⟩) I0⟩
    cases Y0 with | cons d7 Y0 =>
    cases Y0 with | cons d6 Y0 =>
    cases Y0 with | cons d5 Y0 =>
    cases Y0 with | cons d4 Y0 =>
    cases Y0 with | cons d3 Y0 =>
    cases Y0 with | cons d2 Y0 =>
    cases Y0 with | cons d1 Y0 =>
    clear Y0
    have hdep : callerA.depth + 40 < recursionLimit := by decide
    have hhan : callerA.handled = none := rfl
    clear F0 N0
    -- seeds
    refine wpAny_execs_cons (wpAny_Assign_Name (Call_ (Mine.nmG G0 S0 (by k_is) (callWith_K X0 (by k_is) (spliced_cons (Mine.nmL S0 rfl (spliced_nil ⟨Mine.Glb.at (C := Mine.gx (ghostOf s1.heap [(194, 190)])) G0 S0, ?_⟩)))))))
    have X0' := fun {L b m mu h} (S : Mine.St (Mine.gx (ghostOf s1.heap [(194, 190)])) L b m mu h) => Mine.Glb.at (C := Mine.gx (ghostOf s1.heap [(194, 190)])) G0 S
    refine Mine.seeds_spec G0 rfl (by show callerA.depth + 1 + 3 < recursionLimit; omega) S0 LS (by omega) fun vseeds b₁ h₁ tk₁ xs l₁ S₁ Dx hx7 hbig => ?_
    refine Mine.stL S₁ fun h₂ tk₂ S₂ => ?_
    clear S0 S₁
    obtain ⟨aS, vS, rfl, LSd, alS⟩ := Dx
    have nS := alS.length
    -- hosts
    have hS9 : vS.length ≤ 9 := by omega
    have hfd : (vS.length : Int).fdiv 2 = ((xs.length / 2 : Nat) : Int) := by
      rw [nS, Int.fdiv_eq_ediv_of_nonneg _ (by decide)]; rfl
    refine wpAny_execs_cons (wpAny_Assign_Name (Mine.g_lstUpto S₂ (Mine.nmL S₂ rfl (wpAny_BinOp (Mine.g_lenE G0 S₂ (by k_is) (Mine.nmL S₂ rfl (Mine.g_len (LSd.at S₂) (by omega) fun t3 tk3 => Mine.cInt fun t4 tk4 => Mine.i_div (by decide) (by decide) fun t5 tk5 => ?_)))))))
    rw [hfd]
    refine ⟨_, _, _, _, _, _, _, rfl, rfl, rfl, by omega, LSd.at S₂, S₂, fun Dh h₃ tk₃ hDh S₃ => ?_⟩
    obtain ⟨b₄, l₄, S₄, LH⟩ := S₃.fzLst hDh
    refine Mine.stL S₄ fun h₅ tk₅ S₅ => ?_
    clear S₂ S₃ S₄
    have alH : Mine.All2 (Mine.IsI b₄) (vS.take (xs.length / 2)) (xs.take (xs.length / 2)) := alS.take _
    have hHl : (xs.take (xs.length / 2)).length = xs.length / 2 := by rw [List.length_take]; omega
    -- names, ladders, lengths
    refine wpAny_execs_cons (Assign_Tuple (Call_ (Mine.nmG G0 S₅ (by k_is) (callWith_K X0 (by k_is) (spliced_cons (Mine.nmL S₅ rfl (spliced_nil ⟨X0' S₅, ?_⟩)))))))
    refine Mine.places_spec G0 rfl (by show callerA.depth + 1 + 3 < recursionLimit; omega) S₅ ⟨Dh, _, rfl, LH, alH⟩ (by omega) fun aT vn vl vg b₆ h₆ tk₆ top l₆ S₆ htop LTp Dn Dl Dg => ?_
    clear S₅
    obtain ⟨n0, ns, hnm, PL⟩ := plain xs top hx7 hbig htop
    rw [hnm] at Dn
    generalize (Mine.plRun 0 (Mine.jlOf (xs.take (xs.length / 2))) (Mine.plInit top)).2.1 = ladders at *
    generalize (Mine.plRun 0 (Mine.jlOf (xs.take (xs.length / 2))) (Mine.plInit top)).2.2 = lengths at *
    clear hnm plain
    refine wpAny_assign_Tuple rfl (LTp.at S₆) rfl rfl fun h₇ hx₇ => ?_
    replace hx₇ : Heap.ExtBut h₆.objs.size h₆ h₇ := hx₇
    have S₇ := S₆.stay fun a o e => hx₇ a o (Nat.ne_of_lt (Heap.lt_size e)) e
    clear S₆
    show wpAny _ _ (do holding _ (assign _ _ _); do holding _ (assign _ _ _); do holding _ (assign _ _ _); pure ()) _ _ _
    refine wpAny_bind (wpAny_holding (wpAny_assign_Name (Mine.stL S₇ fun h₈ tk₈ S₈ => ?_)))
    refine wpAny_bind (wpAny_holding (wpAny_assign_Name (Mine.stCF (mu1 := [_, _, _, _, _, _]) (mu2 := [_]) S₈ rfl d1 (by intro h; cases h) fun b₉ h₉ l₉ CLad S₉ => ?_)))
    refine wpAny_bind (wpAny_holding (wpAny_assign_Name (Mine.stCF (mu1 := [_, _, _, _, _]) (mu2 := [_]) S₉ rfl d2 (by intro h; cases h) fun b₁₀ h₁₀ l₁₀ CLen S₁₀ => wpAny_pure ?_)))
    clear S₇ S₈ S₉
    replace CLad := CLad.le l₁₀
    have lA : b₆.Le b₁₀ := l₉.trans l₁₀
    replace Dn := Mine.monoL Mine.monoS _ _ _ _ lA Dn
    replace Dl := Mine.monoD (Mine.monoL Mine.monoS) _ _ _ _ lA Dl
    replace Dg := Mine.monoD Mine.monoI _ _ _ _ lA Dg
    replace LSd := LSd.le (l₄.trans (l₆.trans lA))
    replace LH := LH.le (l₆.trans lA)
    obtain ⟨aN, vN, rfl, LN, alN⟩ := Dn
    -- ballots, text
    refine wpAny_execs_cons (Assign_Tuple (Call_ (Mine.nmG G0 S₁₀ (by k_is) (callWith_K X0 (by k_is) (spliced_cons ?_)))))
    refine Mine.g_lstFrom S₁₀ (Mine.nmL S₁₀ rfl (Mine.g_lenE G0 S₁₀ (by k_is) (Mine.nmL S₁₀ rfl (Mine.g_len (LH.at S₁₀) (by rw [List.length_take]; omega) fun t6 tk6 => ?_))))
    rw [show (vS.take (xs.length / 2)).length = xs.length / 2 by rw [List.length_take]; omega]
    refine ⟨_, _, _, _, _, _, _, rfl, rfl, rfl, by omega, LSd.at S₁₀, S₁₀, fun Dn2 h₁₁ tk₁₁ hDn2 S₁₁ => ?_⟩
    obtain ⟨b₁₂, l₁₂, S₁₂, LNu⟩ := S₁₁.fzLst hDn2
    clear S₁₀ S₁₁
    refine spliced_cons (Mine.nmL S₁₂ rfl (spliced_nil ⟨X0' S₁₂, ?_⟩))
    have alNu : Mine.All2 (Mine.IsI b₁₂) (vS.drop (xs.length / 2)) (xs.drop (xs.length / 2)) := alS.drop _
    generalize xs.drop (xs.length / 2) = nums at *
    refine Mine.ballots_spec G0 rfl (by show callerA.depth + 1 + 3 < recursionLimit; omega) S₁₂ ⟨Dn2, _, rfl, LNu, alNu⟩ ⟨aN, vN, rfl, LN.le l₁₂, alN⟩ PL.zB ⟨by simp, by have := PL.zN; simp; omega⟩ PL.small fun aB vb b₁₃ h₁₃ tk₁₃ tt l₁₃ S₁₃ LTb Db => ?_
    clear S₁₂
    generalize hT : Mine.txtOf (n0 :: ns) nums = T at *
    generalize hBB : Mine.balOf (n0 :: ns) nums = B at *
    refine wpAny_assign_Tuple rfl (LTb.at S₁₃) rfl rfl fun h₁₄ hx₁₄ => ?_
    replace hx₁₄ : Heap.ExtBut h₁₃.objs.size h₁₃ h₁₄ := hx₁₄
    have S₁₄ := S₁₃.stay fun a o e => hx₁₄ a o (Nat.ne_of_lt (Heap.lt_size e)) e
    clear S₁₃
    show wpAny _ _ (do holding _ (assign _ _ _); do holding _ (assign _ _ _); pure ()) _ _ _
    refine wpAny_bind (wpAny_holding (wpAny_assign_Name (Mine.stCF (mu1 := [_, _, _, _]) (mu2 := [_]) S₁₄ rfl d3 (by intro h; cases h) fun b₁₅ h₁₅ l₁₅ CBal S₁₅ => ?_)))
    refine wpAny_bind (wpAny_holding (wpAny_assign_Name (Mine.stL S₁₅ fun h₁₆ tk₁₆ S₁₆ => wpAny_pure ?_)))
    clear S₁₄ S₁₅
    have lB : b₁₀.Le b₁₅ := l₁₂.trans (l₁₃.trans l₁₅)
    replace CLad := CLad.le lB
    replace CLen := CLen.le lB
    replace Dl := Mine.monoD (Mine.monoL Mine.monoS) _ _ _ _ lB Dl
    replace Dg := Mine.monoD Mine.monoI _ _ _ _ lB Dg
    replace LN := LN.le lB
    replace Db := Mine.monoL (Mine.monoT Mine.monoS Mine.monoI) _ _ _ _ l₁₅ Db
    obtain ⟨aBl, vBl, rfl, LBl, alBl⟩ := Db
    have hBl : B.length = nums.length := by rw [← hBB]; simp [Mine.balOf]
    have hvBl := alBl.length
    have PLzB := PL.zB
    -- lexer
    replace S₁₆ := S₁₆.perm (Mine.rot5 _ _ _ _ _)
    refine wpAny_execs_cons (wpAny_Assign_Name (Call_ (Mine.nmG G0 S₁₆ (by k_is) (callWith_K X0 (by k_is) (spliced_cons (Mine.nmL S₁₆ rfl (spliced_nil ⟨X0' S₁₆, ?_⟩)))))))
    refine Mine.law_lexer_spec G0 HC rfl (by show callerA.depth + 1 + 12 < recursionLimit; omega) S₁₆ (by show (Mine.sL T).length ≤ 100000; rw [Mine.sL_len, ← hT]; exact PL.zT) fun lx dl lf pb st odl vsl kl kpl ps b₁₇ h₁₇ tk₁₇ l₁₇ LK LD hchs hdl hlf hpb S₁₇ => ?_
    refine Mine.stL S₁₇ fun h₁₈ tk₁₈ S₁₈ => ?_
    clear S₁₆ S₁₇
    replace CLad := CLad.le l₁₇
    replace CLen := CLen.le l₁₇
    replace CBal := CBal.le l₁₇
    replace Dl := Mine.monoD (Mine.monoL Mine.monoS) _ _ _ _ l₁₇ Dl
    replace Dg := Mine.monoD Mine.monoI _ _ _ _ l₁₇ Dg
    replace LN := LN.le l₁₇
    replace LBl := LBl.le l₁₇
    replace alBl : Mine.All2 (Mine.TpOf Mine.IsS Mine.IsI b₁₇) vBl B := alBl.mono fun _ _ q => Mine.monoT Mine.monoS Mine.monoI _ _ _ _ l₁₇ q
    -- inside
    refine wpAny_execs_cons (wpAny_Assign_Name (Call_ (Mine.nmG G0 S₁₈ (by k_is) (callWith_K X0 (by k_is) (spliced_cons (Mine.nmL S₁₈ rfl (spliced_cons ?_)))))))
    refine Mine.lcE (cl := _) (by with_unfolding_all rfl) rfl (by decide) ?_
    refine Mine.nmC rfl (CBal.at S₁₈) ?_
    refine Mine.it_listO rfl S₁₈ LBl fun I₁ io₁ h₁₉ _ hI₁ S₁₉ W₁₉ => ?_
    refine Mine.lpG S₁₉ (W₁₉ _ rfl) (fun D Cc cells i m' mu' b' => ∃ ys k, mu' = [(D, Mine.lstO ys k)] ∧ ys.length = i ∧ Mine.All2 (Mine.IsI b') ys ((B.take i).map (·.2))) ?_ ?_ ?_
    · intro D Cc cells Y
      cases Y
      exact ⟨[], 0, rfl, rfl, .nil⟩
    · rintro D Cc cells i v io₂ m₁ mu₁ b₄ h₈ tk₈ hi hv hLI ⟨ys, k, rfl, hyl, hys⟩ hb S₈ Er K kk
      obtain ⟨p, hp, aP, x1, x2, rfl, hTp, hx1, tw, rfl⟩ := alBl.get hv
      refine Mine.tup_go S₈ hLI (Mine.tup_as rfl S₈ (hTp.le hb) fun h₉ tk₉ S₉ => ?_)
      refine Mine.nmL S₉ rfl ?_
      refine Mine.g_app (mu1 := [(I₁, io₂)]) (mu2 := []) S₉ (by omega) fun k' h' S' => kk _ _ _ _ _ (Mine.Sn.Le.refl _) S' ⟨_, k', rfl, by simp [hyl], ?_⟩
      rw [List.take_add_one, hp, Option.toList_some, List.map_append]
      exact hys.snoc ⟨tw, rfl⟩
    · rintro D Cc cells m₁ mu₁ b₂₀ io₂ h' h₈ tk₈ ⟨ys, k, rfl, hyl, hys⟩ hb S₈ k₁
      rw [List.take_of_length_le (by omega)] at hys
      refine Mine.post_none S₁₉ hI₁ S₈ k₁ fun h₂₀ hDp S₂₀ => ?_
      obtain ⟨b₂₁, l₂₁, S₂₁, LW⟩ := S₂₀.fzLst hDp
      clear S₁₈ S₁₉ S₈ S₂₀ k₁ W₁₉
      refine spliced_nil ⟨X0' S₂₁, ?_⟩
      refine Mine.booked_spec (N := fun q => q ∈ n0 :: ns) (B := B) G0 rfl (by show callerA.depth + 1 + 12 < recursionLimit; omega) S₂₁ (LK.le (hb.trans l₂₁)) LD hchs (by show T.toArray.toList.length ≤ _; simp; rw [← hT]; exact PL.zT) ⟨D, ys, rfl, LW, hys⟩ PL.up (fun p hp => (PL.balN p (by rw [hBB]; exact hp)).1) (by have := PL.enc; rw [hBB, hT] at this; simpa [Mine.sL] using this) (by have := PL.vis; rw [hBB] at this; exact this) (by omega) fun vin b₂₂ h₂₂ tk₂₂ odl' vsl' kl' kpl' l₂₂ LD' S₂₂ Din => ?_
      refine Mine.stL S₂₂ fun h₂₃ tk₂₃ S₂₃ => ?_
      clear S₂₁ S₂₂
      have lC : b₁₇.Le b₂₂ := hb.trans (l₂₁.trans l₂₂)
      replace LK := LK.le lC
      replace CLad := CLad.le lC
      replace CLen := CLen.le lC
      replace CBal := CBal.le lC
      replace Dl := Mine.monoD (Mine.monoL Mine.monoS) _ _ _ _ lC Dl
      replace Dg := Mine.monoD Mine.monoI _ _ _ _ lC Dg
      replace LN := LN.le lC
      replace LBl := LBl.le lC
      replace alBl : Mine.All2 (Mine.TpOf Mine.IsS Mine.IsI b₂₂) vBl B := alBl.mono fun _ _ q => Mine.monoT Mine.monoS Mine.monoI _ _ _ _ lC q
      -- totals
      have DN : Mine.LsOf Mine.IsS b₂₂ (.ref aN) (n0 :: ns) := ⟨aN, vN, rfl, LN, alN⟩
      refine wpAny_execs_cons (wpAny_Assign_Name (Call_ (Mine.nmG G0 S₂₃ (by k_is) (callWith_K X0 (by k_is) (spliced_cons (Mine.nmL S₂₃ rfl (spliced_cons (Mine.nmC rfl (CLen.at S₂₃) (spliced_cons (Mine.nmL S₂₃ rfl (spliced_nil ⟨X0' S₂₃, ?_⟩)))))))))))
      have PLn := PL.zN
      refine Mine.totals_spec G0 rfl (by show callerA.depth + 1 + 6 < recursionLimit; omega) S₂₃ DN Dg Din (by omega) (List.nodup_cons.mp PL.nd).2 PL.par PL.len fun vtot b₂₄ h₂₄ tk₂₄ l₂₄ S₂₄ Dtot => ?_
      refine Mine.stCF (mu1 := [_, _, _, _, _, _, _]) (mu2 := []) S₂₄ rfl d4 (by intro h; cases h) fun b₂₅ h₂₅ l₂₅ CTot S₂₅ => ?_
      clear S₂₃ S₂₄
      have lD : b₂₂.Le b₂₅ := l₂₄.trans l₂₅
      replace Dtot := Mine.monoD Mine.monoI _ _ _ _ l₂₅ Dtot
      replace LK := LK.le lD
      replace CLad := CLad.le lD
      replace CLen := CLen.le lD
      replace CBal := CBal.le lD
      replace Dl := Mine.monoD (Mine.monoL Mine.monoS) _ _ _ _ lD Dl
      replace Dg := Mine.monoD Mine.monoI _ _ _ _ lD Dg
      replace LN := LN.le lD
      replace LBl := LBl.le lD
      replace DN := Mine.monoL Mine.monoS _ _ _ _ lD DN
      replace alBl : Mine.All2 (Mine.TpOf Mine.IsS Mine.IsI b₂₅) vBl B := alBl.mono fun _ _ q => Mine.monoT Mine.monoS Mine.monoI _ _ _ _ lD q
      generalize htot : Mine.totalsL n0 ns lengths (Mine.bookL B []) = tot at *
      -- ways
      generalize hwl : (n0 :: ns).map (fun a => (a, B.map fun p => Mine.linksLL ladders a p.1)) = wl at *
      have hwlk : ∀ i nm, (n0 :: ns)[i]? = some nm → wl.take (i + 1) = Mine.putL (wl.take i) nm (B.map fun p => Mine.linksLL ladders nm p.1) := fun i nm hnm => by
        rw [Mine.putL_new, ← hwl, List.take_add_one, List.getElem?_map, hnm]
        · rfl
        · intro p hp e
          rw [← hwl, ← List.map_take] at hp
          obtain ⟨n', hn', rfl⟩ := List.mem_map.mp hp
          exact Mine.nodup_take_ne PL.nd hnm n' hn' e
      refine wpAny_execs_cons (wpAny_Assign_Name (Mine.dcE (cl := _) (by with_unfolding_all rfl) rfl (by decide) ?_))
      refine Mine.nmL S₂₅ rfl ?_
      refine Mine.it_listO rfl S₂₅ LN fun I₃ io₃ h₂₆ _ hI₃ S₂₆ W₂₆ => ?_
      have hvN := alN.length
      simp only [List.length_cons] at hvN
      refine Mine.dcG G0 S₂₆ (W₂₆ _ rfl) (fun D Cc cells i m' mu' b' => ∃ o es co, mu' = [(D, o), (Cc + 1, co)] ∧ (∃ v0, co.data = .cell v0) ∧ o.IsDictOf (PySem.strKind PySem.Challenge.rw_xo0020_01.row.prog w0) es ∧ Mine.All2 (fun p q => p.1 = q.1 ∧ Mine.LsOf (Mine.LsOf Mine.IsS) b' p.2 q.2) es (wl.take i)) ?_ ?_ ?_
      · intro D Cc cells o hlo ho Y
        obtain ⟨oc, rfl, dc⟩ := CellsAre.one Y
        exact ⟨o, [], oc, rfl, ⟨_, dc⟩, ho, .nil⟩
      · rintro D Cc cells i v io₂ m₁ mu₁ b₄ h₈ tk₈ hi hv - ⟨o, es, co, rfl, ⟨v0, dc⟩, ho, hes⟩ hb S₈ Er K kk
        obtain ⟨nm, hnm, tn, rfl⟩ := alN.get hv
        have hnmM := List.mem_of_getElem? hnm
        obtain ⟨ladn, hladn, hladz⟩ := PL.lad nm hnmM
        refine wpAny_assign_Name (Mine.stC (mu1 := [_, _]) (mu2 := []) S₈ rfl dc fun h₉ co' dc' S₉ _ => ?_)
        refine wpAny_pure (a := true) ?_
        rw [if_pos rfl]
        refine Mine.nmC rfl ⟨co', S₉.muin (Cc + 1, co') (by simp), dc'⟩ ?_
        refine Mine.lcE (cl := _) (by with_unfolding_all rfl) rfl (by decide) ?_
        refine Mine.nmC rfl ((CBal.le hb).at S₉) ?_
        refine Mine.it_listO rfl S₉ (LBl.le hb) fun I₄ io₄ h₁₀ _ hI₄ S₁₀ W₁₀ => ?_
        refine Mine.lpG S₁₀ (W₁₀ _ rfl) (fun D2 Cc2 cells2 i2 m' mu' b' => ∃ ys k, mu' = [(D2, Mine.lstO ys k)] ∧ ys.length = i2 ∧ Mine.All2 (Mine.LsOf Mine.IsS b') ys ((B.take i2).map fun p => Mine.linksLL ladders nm p.1)) ?_ ?_ ?_
        · intro D2 Cc2 cells2 Y
          cases Y
          exact ⟨[], 0, rfl, rfl, .nil⟩
        · rintro D2 Cc2 cells2 i2 v2 io₅ m₂ mu₂ b₅ h₁₁ tk₁₁ hi2 hv2 hLI2 ⟨ys, k, rfl, hyl, hys⟩ hb2 S₁₁ Er2 K2 kk2
          obtain ⟨p, hp, aP, x1, x2, rfl, hTp, ⟨tp, rfl⟩, tw, rfl⟩ := alBl.get hv2
          have hpM := PL.balN p (by rw [hBB]; exact List.mem_of_getElem? hp)
          obtain ⟨ladp, hladp, hladpz⟩ := PL.lad p.1 hpM.1
          have lE := hb.trans hb2
          refine Mine.tup_go S₁₁ hLI2 (Mine.tup_as rfl S₁₁ (hTp.le lE) fun h₁₂ tk₁₂ S₁₂ => ?_)
          obtain ⟨dL, eL, hdL, LLd, alLd⟩ := Mine.monoD (Mine.monoL Mine.monoS) _ _ _ _ lE Dl
          obtain ⟨w1, hw1, hw1'⟩ := (Mine.valueAt_look (k := nm) alLd).2 _ hladn
          obtain ⟨w2, hw2, hw2'⟩ := (Mine.valueAt_look (k := p.1) alLd).2 _ hladp
          have hcell : h₁₂.IsCell (Cc + 1) (some (.str nm tn)) := ⟨co', S₁₂.pin (Cc + 1) co' (S₁₀.muin (Cc + 1, co') (by simp)) (by
            intro hq
            have nd := S₁₀.mund
            have hq' : Cc + 1 = I₄ := by simpa using hq
            simp only [Mine.addrs, List.map_cons, List.nodup_cons, List.mem_cons, List.map_nil] at nd
            exact nd.1 (by simp [hq'])), dc'⟩
          have X12 := fun {L b m mu h g ps} (S : Mine.St ⟨ghostOf s1.heap [(194, 190)], b, g, ps⟩ L b m mu h) => Mine.Glb.at (C := ⟨ghostOf s1.heap [(194, 190)], b, g, ps⟩) G0 S
          clear X12
          refine Call_ (Mine.nmG G0.to S₁₂ (by k_is) (callWith_K X0 (by k_is) (spliced_cons ?_)))
          refine Subscript_ (Mine.nmC rfl ((CLad.le lE).at S₁₂) (Mine.nmC rfl hcell ?_))
          subst hdL
          refine Mine.g_itemD S₁₂ LLd hw1 fun tk₁₃ => spliced_cons (Subscript_ (Mine.nmC rfl ((CLad.le lE).at S₁₂) (Mine.nmL S₁₂ rfl (Mine.g_itemD S₁₂ LLd hw2 fun tk₁₄ => spliced_nil ⟨X0.keeps S₁₂.base', ?_⟩))))
          obtain ⟨q1, q1v, rfl, q1l, q1a⟩ := hw1'
          obtain ⟨q2, q2v, rfl, q2l, q2a⟩ := hw2'
          refine Mine.links_spec G0.to rfl (by show callerA.depth + 1 + 2 < recursionLimit; omega) S₁₂ (Mine.StrB.of ⟨_, _, rfl, q1l, q1a⟩) (Mine.StrB.of ⟨_, _, rfl, q2l, q2a⟩) hladz hladpz fun r b₁₃ h₁₃' tk₁₅ l₁₃' S₁₃' hr => ?_
          refine Mine.g_app (mu1 := [_]) (mu2 := []) S₁₃' (by omega) fun k' h' S' => kk2 _ _ _ _ _ l₁₃' S' ⟨_, k', rfl, by simp [hyl], ?_⟩
          rw [List.take_add_one, hp, Option.toList_some, List.map_append]
          refine (hys.mono fun _ _ q => Mine.monoL Mine.monoS _ _ _ _ l₁₃' q).snoc ?_
          have := Mine.StrB.to hr
          show Mine.LsOf Mine.IsS b₁₃ _ (Mine.linksL ((Mine.look ladders nm).getD []) ((Mine.look ladders p.1).getD []))
          rw [hladn, hladp]
          exact this
        · rintro D2 Cc2 cells2 m₂ mu₂ b₅ io₅ h' h₁₁ tk₁₁ ⟨ys, k, rfl, hyl, hys⟩ hb2 S₁₁ k₂
          rw [List.take_of_length_le (by omega)] at hys
          refine Mine.post_none S₁₀ hI₄ S₁₁ k₂ fun h₁₂ hDp2 S₁₂ => ?_
          obtain ⟨b₁₃, l₁₃', S₁₃', LW2⟩ := S₁₂.fzLst hDp2
          have hwz : wl.length = ns.length + 1 := by rw [← hwl]; simp
          refine Mine.g_dset (mu1 := [_]) (mu2 := [_]) S₁₃' ho (by rw [hes.length, List.length_take, sizeLine_eq]; omega) fun o' h₁₄' tk₁₄ ho' S₁₄' => ?_
          refine kk _ _ _ _ _ (hb2.trans l₁₃') S₁₄' ⟨o', _, co', rfl, ⟨_, dc'⟩, ho', ?_⟩
          rw [hwlk i nm hnm]
          exact (hes.mono fun _ _ q => ⟨q.1, Mine.monoL (Mine.monoL Mine.monoS) _ _ _ _ (hb2.trans l₁₃') q.2⟩).stored ⟨D2, ys, rfl, LW2, hys.mono fun _ _ q => Mine.monoL Mine.monoS _ _ _ _ l₁₃' q⟩
      · rintro D Cc cells m₁ mu₁ b₄ io₂ h' h₈ tk₈ hlo ⟨o, es, co, rfl, ⟨v0, dc⟩, ho, hes⟩ hb S₈ k₁
        have hwz : wl.length = ns.length + 1 := by rw [← hwl]; simp
        rw [List.take_of_length_le (by omega)] at hes
        refine Mine.post_none S₂₆ hI₃ S₈ k₁ fun h₉ hDp S₉ => ?_
        obtain ⟨b₁₀', l₁₀', S₁₀, LWs⟩ := S₉.fzDic hlo ho hDp
        refine Mine.stCF (mu1 := [_, _, _, _, _, _]) (mu2 := []) S₁₀ rfl d5 (by intro h; cases h) fun b₂₆ h₂₆ l₂₆ CWays S₂₇ => ?_
        clear S₂₅ S₂₆ S₈ S₉ S₁₀ k₁ W₂₆
        have lF : b₂₅.Le b₂₆ := hb.trans (l₁₀'.trans l₂₆)
        have Dways : Mine.DcOf PySem.Challenge.rw_xo0020_01.row.prog w0 (Mine.LsOf (Mine.LsOf Mine.IsS)) b₂₆ (.ref D) wl := ⟨D, es, rfl, LWs.le l₂₆, hes.mono fun _ _ q => ⟨q.1, Mine.monoL (Mine.monoL Mine.monoS) _ _ _ _ (l₁₀'.trans l₂₆) q.2⟩⟩
        replace Dtot := Mine.monoD Mine.monoI _ _ _ _ lF Dtot
        replace LK := LK.le lF
        replace CLad := CLad.le lF
        replace CLen := CLen.le lF
        replace CBal := CBal.le lF
        replace CTot := CTot.le lF
        replace Dg := Mine.monoD Mine.monoI _ _ _ _ lF Dg
        replace LN := LN.le lF
        replace LBl := LBl.le lF
        replace DN := Mine.monoL Mine.monoS _ _ _ _ lF DN
        replace alBl : Mine.All2 (Mine.TpOf Mine.IsS Mine.IsI b₂₆) vBl B := alBl.mono fun _ _ q => Mine.monoT Mine.monoS Mine.monoI _ _ _ _ lF q
        -- totals != {here: _law_sum(...)}
        have PLtot := PL.tot
        rw [hBB, htot] at PLtot
        refine wpAny_execs_cons (wpAny_If (wpAny_isTrue_Compare1 (Mine.nmC rfl (CTot.at S₂₇) ?_)))
        refine Mine.dcE (cl := _) (by with_unfolding_all rfl) rfl (by decide) ?_
        refine Mine.nmL S₂₇ rfl ?_
        refine Mine.it_listO rfl S₂₇ LN fun I₅ io₅ h₂₈ _ hI₅ S₂₈ W₂₈ => ?_
        generalize hsl : (n0 :: ns).map (fun a => (a, (Mine.sumWays (B.map fun p => Mine.linksLL ladders a p.1) B lengths).sum)) = sl at *
        refine Mine.dcG G0 S₂₈ (W₂₈ _ rfl) (fun D Cc cells i m' mu' b' => ∃ o es, mu' = [(D, o)] ∧ o.IsDictOf (PySem.strKind PySem.Challenge.rw_xo0020_01.row.prog w0) es ∧ Mine.All2 (fun p q => p.1 = q.1 ∧ Mine.IsI b' p.2 q.2) es (sl.take i)) ?_ ?_ ?_
        · intro D Cc cells o hlo ho Y
          cases Y
          exact ⟨o, [], rfl, ho, .nil⟩
        · rintro D2 Cc cells i v io₂ m₁ mu₁ b₅ h₈ tk₈ hi hv - ⟨o, es', rfl, ho, hes'⟩ hb2 S₈ Er K kk
          obtain ⟨nm, hnm, tn, rfl⟩ := alN.get hv
          have hnmM := List.mem_of_getElem? hnm
          have hsz : sl.length = ns.length + 1 := by rw [← hsl]; simp
          have hwlook : Mine.look wl nm = some (B.map fun p => Mine.linksLL ladders nm p.1) := Mine.look_of_mem (by rw [← hwl, List.map_map]; have : ((fun x : Str × List (List Str) => x.1) ∘ fun a => (a, B.map fun p => Mine.linksLL ladders a p.1)) = id := rfl; rw [this, List.map_id]; exact PL.nd) (by rw [← hwl]; exact List.mem_map.mpr ⟨nm, hnmM, rfl⟩)
          obtain ⟨dW, eW, hdW, LWd, alWd⟩ := Mine.monoD (Mine.monoL (Mine.monoL Mine.monoS)) _ _ _ _ hb2 Dways
          cases hdW
          obtain ⟨w1, hw1, hw1'⟩ := (Mine.valueAt_look (k := nm) alWd).2 _ hwlook
          refine wpAny_assign_Name (Mine.stL S₈ fun h₉ tk₉ S₉ => ?_)
          refine wpAny_pure (a := true) ?_
          rw [if_pos rfl]
          refine Mine.nmL S₉ rfl ?_
          refine Call_ (Mine.nmG G0.to S₉ (by k_is) (callWith_K X0 (by k_is) (spliced_cons ?_)))
          refine Subscript_ (Mine.nmC rfl ((CWays.le hb2).at S₉) (Mine.nmL S₉ rfl (Mine.g_itemD S₉ LWd hw1 fun tk₁₃ => ?_)))
          refine spliced_cons (Mine.nmC rfl ((CBal.le hb2).at S₉) (spliced_cons (Mine.nmC rfl ((CLen.le hb2).at S₉) (spliced_nil ⟨X0.keeps S₉.base', ?_⟩))))
          refine Mine.law_sum_spec (W := B.map fun p => Mine.linksLL ladders nm p.1) (B := B) G0.to rfl (by show callerA.depth + 1 + 2 < recursionLimit; omega) S₉ hw1' ⟨aBl, vBl, rfl, LBl.le hb2, alBl.mono fun _ _ q => Mine.monoT Mine.monoS Mine.monoI _ _ _ _ hb2 q⟩ (Mine.monoD Mine.monoI _ _ _ _ hb2 Dg) (by simp) (by omega) (fun p hp => (PL.balN p (by rw [hBB]; exact hp)).2) ?_ fun b₁₁ h₁₁ t₁₁ tk₁₁ l₁₁ S₁₁ => ?_
          · intro ls hls
            obtain ⟨p, hp, rfl⟩ := List.mem_map.mp hls
            have hpM := PL.balN p (by rw [hBB]; exact hp)
            refine ⟨?_, fun l hl => PL.links nm hnmM p.1 hpM.1 l hl⟩
            obtain ⟨l1, e1, z1⟩ := PL.lad nm hnmM
            obtain ⟨l2, e2, z2⟩ := PL.lad p.1 hpM.1
            unfold Mine.linksLL Mine.linksL Mine.offL
            rw [e1, e2, List.length_append]
            have a1 := List.length_filter_le (fun x => !l2.any (· == x)) l1
            have a2 := List.length_filter_le (fun x => !l1.any (· == x)) l2
            simp only [Option.getD_some]
            omega
          · refine Mine.g_dset (mu1 := [_]) (mu2 := []) S₁₁ ho (by rw [hes'.length, List.length_take, sizeLine_eq]; omega) fun o' h₁₂ tk₁₂ ho' S₁₂ => ?_
            refine kk _ _ _ _ _ l₁₁ S₁₂ ⟨o', _, rfl, ho', ?_⟩
            have : sl.take (i + 1) = Mine.putL (sl.take i) nm ((Mine.sumWays (B.map fun p => Mine.linksLL ladders nm p.1) B lengths).sum) := by
              rw [Mine.putL_new, ← hsl, List.take_add_one, List.getElem?_map, hnm]
              · rfl
              · intro p hp e
                rw [← hsl, ← List.map_take] at hp
                obtain ⟨n', hn', rfl⟩ := List.mem_map.mp hp
                exact Mine.nodup_take_ne PL.nd hnm n' hn' e
            rw [this]
            exact hes'.stored ⟨t₁₁, rfl⟩
        · rintro D2 Cc cells m₁ mu₁ b₅ io₂ h' h₈ tk₈ hlo2 ⟨o, es', rfl, ho, hes'⟩ hb2 S₈ k₁
          have hsz : sl.length = ns.length + 1 := by rw [← hsl]; simp
          rw [List.take_of_length_le (by omega)] at hes'
          refine Mine.post_none S₂₈ hI₅ S₈ k₁ fun h₉ hDp2 S₉ => ?_
          obtain ⟨b₁₀, l₁₀'', S₁₀, LSm⟩ := S₉.fzDic hlo2 ho hDp2
          have lG := hb2.trans l₁₀''
          refine Mine.g_neD S₁₀ (by rw [PLtot] at Dtot; exact Mine.monoD Mine.monoI _ _ _ _ lG Dtot) ⟨D2, es', rfl, LSm, hes'⟩ (by show callerA.units + 3 < cLine; decide) (wpAny_truthy_bool ?_)
          refine wpAny_execs_nil ?_
          clear S₂₇ S₂₈ S₈ S₉ k₁ W₂₈
          -- lineno
          obtain ⟨u1, u2, hIl⟩ := id LD'
          refine wpAny_execs_cons (wpAny_If (wpAny_isTrue_Compare1 (Attribute_any_ (Mine.nmL S₁₀ rfl (Mine.a_get (X0' S₁₀) (S₁₀.bin _ _ (LK.le lG).inst) (S₁₀.muin (dl, odl') (by simp)) hIl (by k_is) (by k_is) (by k_is) (by k_is) rfl rfl fun tk₁₁ => ?_)))))
          refine wpAny_BinOp (Mine.cInt fun t12 tk12 => MethodCall_ (Mine.nmL S₁₀ rfl (GM.count (callWith_method1 (spliced_cons (Mine.cStr (k := 0) (pos := ⟨0, 0, 0, 0⟩) fun t13 tk13 => spliced_nil (SC.count (Mine.i_add fun t14 tk14 => Mine.i_ne (wpAny_truthy_bool ?_)))))))))
          have hcnt := PL.cntT
          rw [hT] at hcnt
          have hTl : (Mine.sL T).cps.toList = T := by simp [Mine.sL]
          rw [hcnt, hTl, show ((1 + Mine.cnt T) != (1 + Mine.cnt T)) = false by simp]
          refine wpAny_execs_nil ?_
          -- judge
          refine wpAny_execs_cons (wpAny_Assign_Name (Call_ (Mine.nmG G0 S₁₀ (by k_is) (callWith_K X0 (by k_is) (spliced_cons ?_)))))
          refine List_ (spliced_cons ?_)
          refine Tuple_ (k := 0) (spliced_cons (Mine.cInt (k := 0) (pos := ⟨0, 0, 0, 0⟩) fun t15 tk15 => spliced_cons (Mine.cInt (k := 0) (pos := ⟨0, 0, 0, 0⟩) fun t16 tk16 => spliced_nil ?_)))
          refine Mine.g_newT S₁₀ (by rw [sizeLine_eq]; exact Nat.le_of_ble_eq_true rfl) fun Tj h₁₁ hTj _ S₁₁ => spliced_nil ?_
          obtain ⟨b₁₂', l₁₂', S₁₂, LTj⟩ := S₁₁.fzTup hTj
          refine Mine.g_newL S₁₂ (by rw [sizeLine_eq]; exact Nat.le_of_ble_eq_true rfl) fun Lj h₁₃' hLj _ S₁₃ => spliced_nil ?_
          obtain ⟨b₁₄', l₁₄', S₁₄, LLj⟩ := S₁₃.fzLst hLj
          refine ⟨X0' S₁₄, ?_⟩
          refine Mine.make_judge G0 (by show callerA.depth + 1 + 8 < recursionLimit; omega) S₁₄ LLj (LTj.le l₁₄') fun jd b₁₅' h₁₅' tk₁₅' l₁₅' HJ S₁₅ => ?_
          refine Mine.stCF (mu1 := [_, _, _, _, _]) (mu2 := []) S₁₅ rfl d6 (by intro h; cases h) fun b₁₆' h₁₆' l₁₆' CJ S₁₆ => ?_
          clear S₁₀ S₁₁ S₁₂ S₁₃ S₁₄ S₁₅
          have lH : b₂₆.Le b₁₆' := lG.trans (l₁₂'.trans (l₁₄'.trans (l₁₅'.trans l₁₆')))
          replace HJ := HJ.le l₁₆'
          replace Dtot := Mine.monoD Mine.monoI _ _ _ _ lH Dtot
          replace CTot := CTot.le lH
          replace CBal := CBal.le lH
          replace CWays := CWays.le lH
          replace LN := LN.le lH
          replace LBl := LBl.le lH
          replace DN := Mine.monoL Mine.monoS _ _ _ _ lH DN
          replace Dways := Mine.monoD (Mine.monoL (Mine.monoL Mine.monoS)) _ _ _ _ lH Dways
          replace alBl : Mine.All2 (Mine.TpOf Mine.IsS Mine.IsI b₁₆') vBl B := alBl.mono fun _ _ q => Mine.monoT Mine.monoS Mine.monoI _ _ _ _ lH q
          -- rows
          generalize hrl : (n0 :: ns).map (fun a => (a, Mine.gl tot a)) = rl at *
          have hrz : rl.length = ns.length + 1 := by rw [← hrl]; simp
          refine wpAny_execs_cons (wpAny_Assign_Name (Mine.lcE (cl := _) (by with_unfolding_all rfl) rfl (by decide) ?_))
          refine Mine.nmL S₁₆ rfl ?_
          refine Mine.it_listO rfl S₁₆ LN fun I₆ io₆ h₁₇' _ hI₆ S₁₇ W₁₇ => ?_
          refine Mine.lcG S₁₇ (W₁₇ _ rfl) (fun D Cc cells i m' mu' b' => ∃ ys k, mu' = [(D, Mine.lstO ys k)] ∧ ys.length = i ∧ Mine.All2 (Mine.TpOf Mine.IsS Mine.IsI b') ys (rl.take i)) ?_ ?_ ?_
          · intro D Cc cells Y
            cases Y
            exact ⟨[], 0, rfl, rfl, .nil⟩
          · rintro D3 Cc cells i v io₂ m₁ mu₁ b₆ h₈ tk₈ hi hv - ⟨ys, k, rfl, hyl, hys⟩ hb3 S₈ Er K kk
            obtain ⟨nm, hnm, tn, rfl⟩ := alN.get hv
            have hnmM := List.mem_of_getElem? hnm
            obtain ⟨dT, eT, hdT, LTd, alTd⟩ := Mine.monoD Mine.monoI _ _ _ _ hb3 Dtot
            cases hdT
            have htl : Mine.look tot nm = some (Mine.gl tot nm) := by
              have : Mine.look tot nm = some ((Mine.sumWays (B.map fun p => Mine.linksLL ladders nm p.1) B lengths).sum) := by
                rw [PLtot, ← hsl]
                exact Mine.look_of_mem (by rw [List.map_map]; have e : ((fun x : Str × Int => x.1) ∘ fun a => (a, (Mine.sumWays (B.map fun p => Mine.linksLL ladders a p.1) B lengths).sum)) = id := rfl; rw [e, List.map_id]; exact PL.nd) (List.mem_map.mpr ⟨nm, hnmM, rfl⟩)
              unfold Mine.gl
              rw [this]; rfl
            obtain ⟨w1, hw1, tw, rfl⟩ := (Mine.valueAt_look (k := nm) alTd).2 _ htl
            refine wpAny_assign_Name (Mine.stL S₈ fun h₉ tk₉ S₉ => ?_)
            refine wpAny_pure (a := true) ?_
            rw [if_pos rfl]
            refine Tuple_ (spliced_cons (Mine.nmL S₉ rfl (spliced_cons (Subscript_ (Mine.nmC rfl ((CTot.le hb3).at S₉) (Mine.nmL S₉ rfl (Mine.g_itemD S₉ LTd hw1 fun tk₁₀ => spliced_nil ?_)))))))
            refine Mine.g_newT S₉ (by rw [sizeLine_eq]; exact Nat.le_of_ble_eq_true rfl) fun Tr h₁₁ hTr _ S₁₁ => ?_
            obtain ⟨b₁₂, l₁₂, S₁₂, LTr⟩ := S₁₁.fzTup hTr
            refine Mine.g_app (mu1 := [_]) (mu2 := []) S₁₂ (by omega) fun k' h' S' => kk _ _ _ _ _ l₁₂ S' ⟨_, k', rfl, by simp [hyl], ?_⟩
            have : rl.take (i + 1) = rl.take i ++ [(nm, Mine.gl tot nm)] := by
              rw [← hrl, List.take_add_one, List.getElem?_map, hnm]; rfl
            rw [this]
            exact (hys.mono fun _ _ q => Mine.monoT Mine.monoS Mine.monoI _ _ _ _ l₁₂ q).snoc ⟨Tr, _, _, rfl, LTr, ⟨tn, rfl⟩, ⟨tw, rfl⟩⟩
          · rintro D3 Cc cells m₁ mu₁ b₆ io₂ h' h₈ tk₈ ⟨ys, k, rfl, hyl, hys⟩ hb3 S₈ k₁
            rw [List.take_of_length_le (by omega)] at hys
            refine Mine.post_none S₁₇ hI₆ S₈ k₁ fun h₉ hDp3 S₉ => ?_
            obtain ⟨b₁₀, l₁₀', S₁₀, LR⟩ := S₉.fzLst hDp3
            refine Mine.stCF (mu1 := [_, _, _, _]) (mu2 := []) S₁₀ rfl d7 (by intro h; cases h) fun b₁₁ h₁₁ l₁₁ CRows S₁₁ => ?_
            clear S₁₆ S₁₇ S₈ S₉ S₁₀ k₁ W₁₇
            have lI : b₁₆'.Le b₁₁ := hb3.trans (l₁₀'.trans l₁₁)
            replace LR := LR.le l₁₁
            replace hys : Mine.All2 (Mine.TpOf Mine.IsS Mine.IsI b₁₁) ys rl := hys.mono fun _ _ q => Mine.monoT Mine.monoS Mine.monoI _ _ _ _ (l₁₀'.trans l₁₁) q
            replace HJ := HJ.le lI
            replace CJ := CJ.le (hb3.trans (l₁₀'.trans l₁₁))
            replace CBal := CBal.le lI
            replace CWays := CWays.le lI
            replace LBl := LBl.le lI
            replace DN := Mine.monoL Mine.monoS _ _ _ _ lI DN
            replace Dways := Mine.monoD (Mine.monoL (Mine.monoL Mine.monoS)) _ _ _ _ lI Dways
            replace alBl : Mine.All2 (Mine.TpOf Mine.IsS Mine.IsI b₁₁) vBl B := alBl.mono fun _ _ q => Mine.monoT Mine.monoS Mine.monoI _ _ _ _ lI q
            obtain ⟨dj, odj, clj, tpj, tj1, tj2, ej1, ej2, ej3, ej4, ej5⟩ := id HJ
            have hyrl := hys.length
            -- least
            refine wpAny_execs_cons (Mine.lcA (cl := _) (by with_unfolding_all rfl) (by with_unfolding_all rfl) rfl (by decide) ?_)
            refine Mine.nmC rfl (CRows.at S₁₁) ?_
            refine Mine.it_listO rfl S₁₁ LR fun I₇ io₇ h₁₂ _ hI₇ S₁₂ W₁₂ => ?_
            generalize hP : (fun r : Str × Int => !rl.any fun o => decide (Mine.cmpZ r.2 o.2 > 0)) = P at *
            refine Mine.lcG S₁₂ (W₁₂ _ rfl) (fun D Cc cells i m' mu' b' => ∃ zs k co, mu' = [(D, Mine.lstO zs k), (Cc + 1, co)] ∧ (∃ v0, co.data = .cell v0) ∧ zs.length ≤ i ∧ Mine.All2 (Mine.IsS b') zs (((rl.take i).filter P).map (·.1))) ?_ ?_ ?_
            · intro D Cc cells Y
              obtain ⟨oc, rfl, dc⟩ := CellsAre.one Y
              exact ⟨[], 0, oc, rfl, ⟨_, dc⟩, Nat.le_refl _, .nil⟩
            · rintro D4 Cc cells i v io₂ m₁ mu₁ b₇ h₈ tk₈ hi hv - ⟨zs, k, co, rfl, ⟨v0, dc⟩, hzl, hzs⟩ hb4 S₈ Er K kk
              obtain ⟨r, hr, Tr, x1, x2, rfl, hTr, ⟨tr1, rfl⟩, tr2, rfl⟩ := hys.get hv
              refine wpAny_assign_Name (Mine.stC (mu1 := [_, _]) (mu2 := []) S₈ rfl dc fun h₉ co' dc' S₉ _ => ?_)
              refine wpAny_tests_one (wpAny_isTrue_Compare1 ?_)
              refine Mine.lcE (cl := _) (by with_unfolding_all rfl) rfl (by decide) ?_
              refine Mine.nmC rfl ((CRows.le hb4).at S₉) ?_
              refine Mine.it_listO rfl S₉ (LR.le hb4) fun I₈ io₈ h₁₀ _ hI₈ S₁₀ W₁₀ => ?_
              refine Mine.lcG S₁₀ (W₁₀ _ rfl) (fun D5 Cc5 cells5 i5 m' mu' b' => ∃ zs k, mu' = [(D5, Mine.lstO zs k)] ∧ zs.length = ((rl.take i5).filter fun o => decide (Mine.cmpZ r.2 o.2 > 0)).length) ?_ ?_ ?_
              · intro D5 Cc5 cells5 Y
                cases Y
                exact ⟨[], 0, rfl, rfl⟩
              · rintro D5 Cc5 cells5 i5 v5 io₅ m₅ mu₅ b₈ h₁₁ tk₁₁ hi5 hv5 - ⟨zs5, k5, rfl, hz5⟩ hb5 S₁₁' Er5 K5 kk5
                obtain ⟨o5, ho5, To, y1, y2, rfl, hTo, ⟨to1, rfl⟩, to2, rfl⟩ := hys.get hv5
                have lJ := hb4.trans hb5
                refine wpAny_assign_Name (Mine.stL S₁₁' fun h₁₂' tk₁₂' S₁₂' => ?_)
                have hcell : h₁₂'.IsCell (Cc + 1) (some (.ref Tr)) := ⟨co', S₁₂'.pin (Cc + 1) co' (S₁₀.muin (Cc + 1, co') (by simp)) (by
                  intro hq
                  have nd := S₁₀.mund
                  have hq' : Cc + 1 = I₈ := by simpa using hq
                  simp only [Mine.addrs, List.map_cons, List.nodup_cons, List.mem_cons, List.map_nil] at nd
                  exact nd.1 (by simp [hq'])), dc'⟩
                refine wpAny_tests_one (isTrue_plain (Call_ (Mine.nmG G0.to S₁₂' (by k_is) (callWith_K X0 (by k_is) (spliced_cons ?_)))))
                refine MethodCall_ (Mine.nmC rfl ((CJ.le lJ).at S₁₂') (Mine.a_meth (X0.keeps S₁₂'.base') (S₁₂'.bin _ _ (lJ _ _ ej1)) (S₁₂'.bin _ _ (lJ _ _ ej2)) ej3 (by k_is) (by k_is) (by k_is) rfl (callWith_K X0 (by k_is) (spliced_cons ?_))))
                refine Mine.nmC rfl hcell (spliced_cons (Mine.nmL S₁₂' rfl (spliced_nil ⟨X0.keeps S₁₂'.base', ?_⟩)))
                refine Mine.compare_spec G0.to rfl (by show callerA.depth + 1 + 3 < recursionLimit; omega) S₁₂' (HJ.le lJ) (hTr.le lJ) (hTo.le lJ) fun b₉ h₁₃ t₁₃ tk₁₃ l₉ S₁₃ => ?_
                refine spliced_cons (Mine.cInt (k := 0) (pos := ⟨0, 0, 0, 0⟩) fun t14 tk14 => spliced_nil ⟨X0.keeps S₁₃.base', ?_⟩)
                refine Mine.gt_spec G0.to (by show callerA.depth + 1 + 2 < recursionLimit; omega) S₁₃ fun b₁₀' h₁₄ tk₁₄ l₁₀'' S₁₄ => wpAny_truthy_bool ?_
                have hft : ((rl.take (i5 + 1)).filter fun o => decide (Mine.cmpZ r.2 o.2 > 0)).length = ((rl.take i5).filter fun o => decide (Mine.cmpZ r.2 o.2 > 0)).length + (if Mine.cmpZ r.2 o5.2 > 0 then 1 else 0) := by
                  rw [Mine.filter_take_succ ho5, List.length_append]
                  by_cases hc : Mine.cmpZ r.2 o5.2 > 0 <;> simp [hc]
                by_cases hc : Mine.cmpZ r.2 o5.2 > 0
                · rw [decide_eq_true hc, if_pos rfl]
                  refine Mine.nmL S₁₄ rfl ?_
                  have hle := List.length_filter_le (fun o : Str × Int => decide (Mine.cmpZ r.2 o.2 > 0)) (rl.take i5)
                  rw [List.length_take] at hle
                  refine Mine.g_app (mu1 := [_]) (mu2 := []) S₁₄ (by omega) fun k' h' S' => kk5 _ _ _ _ _ (l₉.trans l₁₀'') S' ⟨_, k', rfl, ?_⟩
                  rw [hft, if_pos hc, List.length_append, hz5]; rfl
                · rw [decide_eq_false hc, if_neg (by decide)]
                  refine kk5 _ _ _ _ _ (l₉.trans l₁₀'') S₁₄ ⟨zs5, k5, rfl, ?_⟩
                  rw [hft, if_neg hc, hz5]
                  rfl
              · rintro D5 Cc5 cells5 m₅ mu₅ b₈ io₅ h' h₁₁ tk₁₁ ⟨zs5, k5, rfl, hz5⟩ hb5 S₁₁' k₅
                rw [List.take_of_length_le (by omega)] at hz5
                refine Mine.post_none S₁₀ hI₈ S₁₁' k₅ fun h₁₂' hDp5 S₁₂' => ?_
                refine List_ (spliced_nil (Mine.g_newL S₁₂' (by simp) fun D6 h₁₃ hD6 _ S₁₃ => ?_))
                refine Mine.g_eqE ⟨Mine.lstO zs5 k5, S₁₃.muin (D5, Mine.lstO zs5 k5) (by simp), rfl, k5, rfl⟩ ⟨Mine.lstO [] 0, S₁₃.muin (D6, Mine.lstO [] 0) (by simp), rfl, 0, rfl⟩ (by show callerA.units + 3 < cLine; decide) (wpAny_truthy_bool ?_)
                have S₁₄ := (S₁₃.drop0 hD6).drop0 hDp5
                have hPr : P r = decide (zs5 = []) := by
                  rw [← hP]
                  show (!rl.any fun o => decide (Mine.cmpZ r.2 o.2 > 0)) = decide (zs5 = [])
                  have e1 : (zs5 = []) ↔ (rl.filter fun o => decide (Mine.cmpZ r.2 o.2 > 0)) = [] := by
                    rw [← List.length_eq_zero_iff, hz5, List.length_eq_zero_iff]
                  have e2 : ((rl.filter fun o => decide (Mine.cmpZ r.2 o.2 > 0)) = []) ↔ (rl.any fun o => decide (Mine.cmpZ r.2 o.2 > 0)) = false := by
                    rw [List.filter_eq_nil_iff, List.any_eq_false]
                  cases ha : rl.any fun o => decide (Mine.cmpZ r.2 o.2 > 0) with
                  | true =>
                    have : ¬ (zs5 = []) := fun e => by rw [e2.mp (e1.mp e)] at ha; cases ha
                    simp [this]
                  | false =>
                    have : zs5 = [] := e1.mpr (e2.mpr ha)
                    simp [this]
                have hflt := Mine.filter_take_succ (p := P) hr
                by_cases hz : zs5 = []
                · rw [decide_eq_true hz, if_pos rfl]
                  rw [decide_eq_true hz] at hPr
                  refine Subscript_ (Mine.nmC rfl ⟨co', S₁₄.muin (Cc + 1, co') (by simp), dc'⟩ (Mine.cInt fun t15 tk15 => Mine.g_itemT (i := 0) S₁₄ (hTr.le (hb4.trans hb5)) rfl rfl (by simp) ?_))
                  refine Mine.g_app (mu1 := [_]) (mu2 := [_]) S₁₄ (by omega) fun k' h' S' => kk _ _ _ _ _ hb5 S' ⟨_, k', co', rfl, ⟨_, dc'⟩, by simp; omega, ?_⟩
                  rw [hflt, if_pos hPr, List.map_append]
                  exact hzs.snoc ⟨tr1, rfl⟩
                · rw [decide_eq_false hz, if_neg (by decide)]
                  rw [decide_eq_false hz] at hPr
                  refine kk _ _ _ _ _ hb5 S₁₄ ⟨zs, k, co', rfl, ⟨_, dc'⟩, by omega, ?_⟩
                  rw [hflt, if_neg (by rw [hPr]; decide), List.append_nil]
                  exact hzs
            · rintro D4 Cc cells m₁ mu₁ b₇ io₂ h' h₈ tk₈ ⟨zs, k, co, rfl, ⟨v0, dc⟩, hzl, hzs⟩ hb4 S₈ k₁
              rw [List.take_of_length_le (by omega)] at hzs
              refine Mine.post_local S₁₂ hI₇ S₈ k₁ fun h₉ tk₉ hDp4 S₉ => ?_
              obtain ⟨b₈, l₈, S₁₀, LLs⟩ := S₉.fzLst hDp4
              clear S₁₁ S₁₂ S₈ S₉ k₁ W₁₂
              have lK := hb4.trans l₈
              have hfin : (rl.filter P).map (·.1) = Mine.unbeaten wl B (n0 :: ns) := by
                have PLf := PL.fin
                rw [hBB, htot] at PLf
                rw [← hwl, ← PLf, ← hrl, List.filter_map, List.map_map]
                have e1 : ((fun x : Str × Int => x.1) ∘ fun a => (a, Mine.gl tot a)) = id := rfl
                rw [e1, List.map_id]
                congr 1
                funext a
                show P (a, Mine.gl tot a) = _
                rw [← hP, ← hrl]
                simp only [List.any_map]
                rfl
              rw [hfin] at hzs
              refine wpAny_execs_cons (wpAny_Return_some (wpAny_Compare1 (Mine.nmL S₁₀ rfl ?_)))
              refine Call_ (Mine.nmG G0 S₁₀ (by k_is) (callWith_K X0 (by k_is) (spliced_cons (Mine.nmL S₁₀ rfl (spliced_cons (Mine.nmC rfl ((CWays.le lK).at S₁₀) (spliced_cons (Mine.nmC rfl ((CBal.le lK).at S₁₀) (spliced_nil ⟨X0' S₁₀, ?_⟩)))))))))
              refine Mine.unbeaten_spec (ways := wl) (B := B) G0 rfl (by show callerA.depth + 1 + 2 < recursionLimit; omega) S₁₀ (Mine.monoL Mine.monoS _ _ _ _ lK DN) (Mine.monoD (Mine.monoL (Mine.monoL Mine.monoS)) _ _ _ _ lK Dways) ⟨aBl, vBl, rfl, LBl.le lK, alBl.mono fun _ _ q => Mine.monoT Mine.monoS Mine.monoI _ _ _ _ lK q⟩ (by simp; omega) (by omega) ?_ fun rv b₉ h₁₁' tk₁₁' l₉ S₁₁' Dr => ?_
              · intro nm hnmM
                refine ⟨B.map fun p => Mine.linksLL ladders nm p.1, Mine.look_of_mem (by rw [← hwl, List.map_map]; have : ((fun x : Str × List (List Str) => x.1) ∘ fun a => (a, B.map fun p => Mine.linksLL ladders a p.1)) = id := rfl; rw [this, List.map_id]; exact PL.nd) (by rw [← hwl]; exact List.mem_map.mpr ⟨nm, hnmM, rfl⟩), by simp, ?_⟩
                intro ls hls
                obtain ⟨p, hp, rfl⟩ := List.mem_map.mp hls
                have hpM := PL.balN p (by rw [hBB]; exact hp)
                obtain ⟨l1, e1, z1⟩ := PL.lad nm hnmM
                obtain ⟨l2, e2, z2⟩ := PL.lad p.1 hpM.1
                unfold Mine.linksLL Mine.linksL Mine.offL
                rw [e1, e2, List.length_append]
                have a1 := List.length_filter_le (fun x => !l2.any (· == x)) l1
                have a2 := List.length_filter_le (fun x => !l1.any (· == x)) l2
                simp only [Option.getD_some]
                omega
              · refine Mine.g_eqS S₁₁' ⟨D4, zs, rfl, LLs.le l₉, hzs.mono fun _ _ q => q⟩ Dr (by show callerA.units + 3 < cLine; decide) ?_
                exact ⟨_, _, _, _, _, ps, rfl, rfl, S₁₁', by simp⟩
  · rintro fl s' ⟨h', tk', b', m', mu', ps, rfl, rfl, S', hps⟩
    refine ⟨⟨.inl ⟨.bool true, .bool true, [], rfl, fun cls => rfl, .bool true, ?_, fun _ => ⟨List.nodup_nil, fun a ha => nomatch ha⟩⟩, fun a o e => S'.pin a o e (by intro h; cases h), rfl, hgens⟩, ⟨⟨ps, S'.muin _ hps⟩, trivial⟩⟩
    first | (with_unfolding_all rfl) | decide | simp

end
section
open PySem PySem.W PyProof.Rows PySem.Calls PySem.Spec PySem.Builtin PySem.Builtin.Str
set_option Elab.async false
set_option maxRecDepth 100000
set_option maxHeartbeats 4000000
set_option linter.unusedVariables false
namespace Mine
def inL (lad : List (Str × List Str)) (a x : Str) : Bool := ((look lad a).getD []).any (· == x)
def vot (lad : List (Str × List Str)) (c a p : Str) : Int := voteK (linksLL lad c p) (linksLL lad a p) 1
def wordOk (n : Str) : Bool := n.cps.toList.all fun c => (isSp c || (!isWs c && c != 92 && c != 34)) && (!(c == 92) || isSp c) && (!(c == 34) || isSp c)
structure TreeOk (n0 : Str) (ns : List Str) (lad : List (Str × List Str)) : Prop where
  small : ∀ n ∈ n0 :: ns, n.length ≤ 100 ∧ wordOk n = true ∧ 0 < n.cps.toList.length
  nd : (n0 :: ns).Nodup
  up : ∀ wd ∈ n0 :: ns, okH wd = true ∧ (reachP wd ≠ wd → parS wd ∈ n0 :: ns ∧ (parS wd).length < wd.length)
  par : ∀ i, i < ns.length → parS (ns.getD i "") ∈ (n0 :: ns).take (i + 1)
  ladr : ∀ n ∈ n0 :: ns, look lad n = some (climbs n.length n) ∧ (climbs n.length n).length ≤ 9 ∧ (climbs n.length n).Nodup
  root : (∀ x ∈ ns, inL lad n0 x = false) ∧ ∀ a ∈ n0 :: ns, inL lad a n0 = true
  step : ∀ n ∈ ns, (∀ x ∈ ns, inL lad n x = ((x == n) || inL lad (parS n) x)) ∧ inL lad (parS n) n = false
  perm : ∀ a ∈ n0 :: ns, ∀ c ∈ n0 :: ns, (linksLL lad a c).Perm (ns.filter fun x => inL lad a x != inL lad c x)
  f1 : ∀ a ∈ n0 :: ns, ∀ c ∈ n0 :: ns, a = c ∨ ∃ b ∈ n0 :: ns, ∃ e ∈ ns, (∀ x ∈ ns, (inL lad b x != inL lad a x) = (x == e)) ∧ ∀ p ∈ n0 :: ns, vot lad c a p ≤ if (inL lad p e != inL lad a e) = true then 1 else -1
  f2 : ∀ a ∈ n0 :: ns, ∀ x ∈ ns, ∃ b ∈ n0 :: ns, ∃ e ∈ ns, ∀ p ∈ n0 :: ns, ((inL lad p x != inL lad a x) = true → (inL lad p e != inL lad a e) = true) ∧ vot lad b a p = if (inL lad p e != inL lad a e) = true then 1 else -1

def js3 : List (List Nat) := [0].flatMap fun a => [0, 1].flatMap fun b => [0, 1, 2].map fun c => [a, b, c]
def js4 : List (List Nat) := js3.flatMap fun j => [0, 1, 2, 3].map fun d => j ++ [d]
end Mine

end
section
open PySem PySem.W PyProof.Rows PySem.Calls PySem.Spec PySem.Builtin PySem.Builtin.Str
set_option Elab.async false
set_option maxRecDepth 100000
set_option maxHeartbeats 4000000
set_option linter.unusedVariables false
namespace Mine
def inN (L : List (List Nat)) (a x : Nat) : Bool := (L.getD a []).any (· == x)
def offN (xs ys : List Nat) : List Nat := xs.filter fun x => !ys.any (· == x)
def linksN (L : List (List Nat)) (a c : Nat) : List Nat := offN (L.getD a []) (L.getD c []) ++ offN (L.getD c []) (L.getD a [])
def votN (L : List (List Nat)) (c a p : Nat) : Int := if (linksN L c p).length < (linksN L a p).length then 1 else if (linksN L c p).length > (linksN L a p).length then -1 else 0
def ixI (n : Nat) : List Nat := List.range (n + 1)
def ixJ (n : Nat) : List Nat := (List.range n).map (· + 1)
structure IxOk (n : Nat) (L : List (List Nat)) (P : List Nat) : Prop where
  inb : ∀ i ∈ ixI n, (∀ x ∈ L.getD i [], x ≤ n) ∧ (L.getD i []).length ≤ 9 ∧ (L.getD i []).Nodup
  par : ∀ i ∈ List.range n, P.getD i 0 ≤ i
  root : (∀ x ∈ ixJ n, inN L 0 x = false) ∧ ∀ a ∈ ixI n, inN L a 0 = true
  step : ∀ i ∈ List.range n, (∀ x ∈ ixJ n, inN L (i + 1) x = ((x == i + 1) || inN L (P.getD i 0) x)) ∧ inN L (P.getD i 0) (i + 1) = false
  perm : ∀ a ∈ ixI n, ∀ c ∈ ixI n, (linksN L a c).Perm ((ixJ n).filter fun x => inN L a x != inN L c x)
  f1 : ∀ a ∈ ixI n, ∀ c ∈ ixI n, a = c ∨ ∃ b ∈ ixI n, ∃ e ∈ ixJ n, (∀ x ∈ ixJ n, (inN L b x != inN L a x) = (x == e)) ∧ ∀ p ∈ ixI n, votN L c a p ≤ if (inN L p e != inN L a e) = true then 1 else -1
  f2 : ∀ a ∈ ixI n, ∀ x ∈ ixJ n, ∃ b ∈ ixI n, ∃ e ∈ ixJ n, ∀ p ∈ ixI n, ((inN L p x != inN L a x) = true → (inN L p e != inN L a e) = true) ∧ votN L b a p = if (inN L p e != inN L a e) = true then 1 else -1
def ixB (n : Nat) (L : List (List Nat)) (P : List Nat) : Bool :=
  ((ixI n).all fun i => (L.getD i []).all (fun x => decide (x ≤ n)) && decide ((L.getD i []).length ≤ 9) && decide ((L.getD i []).Nodup)) &&
  ((List.range n).all fun i => decide (P.getD i 0 ≤ i)) &&
  ((ixJ n).all fun x => !inN L 0 x) && ((ixI n).all fun a => inN L a 0) &&
  ((List.range n).all fun i => ((ixJ n).all fun x => inN L (i + 1) x == ((x == i + 1) || inN L (P.getD i 0) x)) && !inN L (P.getD i 0) (i + 1)) &&
  ((ixI n).all fun a => (ixI n).all fun c => (linksN L a c).isPerm ((ixJ n).filter fun x => inN L a x != inN L c x)) &&
  ((ixI n).all fun a => (ixI n).all fun c => decide (a = c) || (ixI n).any fun b => (ixJ n).any fun e => ((ixJ n).all fun x => (inN L b x != inN L a x) == (x == e)) && (ixI n).all fun p => decide (votN L c a p ≤ if (inN L p e != inN L a e) = true then 1 else -1)) &&
  ((ixI n).all fun a => (ixJ n).all fun x => (ixI n).any fun b => (ixJ n).any fun e => (ixI n).all fun p => (!(inN L p x != inN L a x) || (inN L p e != inN L a e)) && decide (votN L b a p = if (inN L p e != inN L a e) = true then 1 else -1))
theorem ixB_ok {n : Nat} {L : List (List Nat)} {P : List Nat} (h : ixB n L P = true) : IxOk n L P := by
  unfold ixB at h
  simp only [Bool.and_eq_true, List.all_eq_true, decide_eq_true_eq, Bool.or_eq_true, List.any_eq_true, beq_iff_eq, Bool.not_eq_true', List.isPerm_iff] at h
  obtain ⟨⟨⟨⟨⟨⟨⟨h1, h2⟩, h3⟩, h4⟩, h5⟩, h6⟩, h7⟩, h8⟩ := h
  refine ⟨fun i hi => ⟨(h1 i hi).1.1, (h1 i hi).1.2, (h1 i hi).2⟩, h2, ⟨h3, h4⟩, h5, h6, fun a ha c hc => ?_, fun a ha x hx => ?_⟩
  · rcases h7 a ha c hc with h | ⟨b, hb, e, he, k1, k2⟩
    · exact .inl h
    · exact .inr ⟨b, hb, e, he, k1, k2⟩
  · obtain ⟨b, hb, e, he, k⟩ := h8 a ha x hx
    refine ⟨b, hb, e, he, fun p hp => ⟨fun hx => ?_, (k p hp).2⟩⟩
    rcases (k p hp).1 with h | h
    · rw [hx] at h; cases h
    · exact h

/-- what is known of a name, apart from any tree -/
structure Row (n p : Str) (cl : List Str) : Prop where
  small : n.length ≤ 100 ∧ wordOk n = true ∧ 0 < n.cps.toList.length
  ok : okH n = true
  par : parS n = p
  up : reachP n = n ∨ p.length < n.length
  cl : climbs n.length n = cl
def rowB (n p : Str) (cl : List Str) : Bool := decide (n.length ≤ 100 ∧ wordOk n = true ∧ 0 < n.cps.toList.length) && okH n && decide (parS n = p) && (decide (reachP n = n) || decide (p.length < n.length)) && decide (climbs n.length n = cl)
theorem rowB_ok {n p : Str} {cl : List Str} (h : rowB n p cl = true) : Row n p cl := by
  unfold rowB at h
  simp only [Bool.and_eq_true, decide_eq_true_eq, Bool.or_eq_true] at h
  exact ⟨h.1.1.1.1, h.1.1.1.2, h.1.1.2, h.1.2, h.2⟩

section
variable {n : Nat} {L : List (List Nat)} {P : List Nat} {f : Nat → Str} {lad : List (Str × List Str)}
theorem ixI_mem {n i : Nat} : i ∈ ixI n ↔ i ≤ n := by unfold ixI; rw [List.mem_range]; omega
theorem ixJ_mem {n i : Nat} : i ∈ ixJ n ↔ 0 < i ∧ i ≤ n := by
  unfold ixJ
  simp only [List.mem_map, List.mem_range]
  constructor
  · rintro ⟨j, h, rfl⟩; omega
  · intro h; exact ⟨i - 1, by omega, by omega⟩
theorem beq_f (hf : ∀ i j, i ≤ n → j ≤ n → f i = f j → i = j) {x y : Nat} (hx : x ≤ n) (hy : y ≤ n) : (f x == f y) = (x == y) := by
  rw [Bool.eq_iff_iff, beq_iff_eq, beq_iff_eq]
  exact ⟨hf x y hx hy, fun e => by rw [e]⟩
theorem any_congr' {α : Type} {p q : α → Bool} : ∀ {l : List α}, (∀ a ∈ l, p a = q a) → l.any p = l.any q
  | [], _ => rfl
  | a :: l, h => by rw [List.any_cons, List.any_cons, h a (List.mem_cons_self ..), any_congr' fun b hb => h b (List.mem_cons_of_mem _ hb)]
theorem nodup_f (hf : ∀ i j, i ≤ n → j ≤ n → f i = f j → i = j) {l : List Nat} (hl : ∀ x ∈ l, x ≤ n) (h : l.Nodup) : (l.map f).Nodup := by
  unfold List.Nodup
  rw [List.pairwise_map]
  exact List.Pairwise.imp_of_mem (fun ha hb hne e => hne (hf _ _ (hl _ ha) (hl _ hb) e)) h
theorem any_f (hf : ∀ i j, i ≤ n → j ≤ n → f i = f j → i = j) {ys : List Nat} (hy : ∀ y ∈ ys, y ≤ n) {x : Nat} (hx : x ≤ n) : (ys.map f).any (· == f x) = ys.any (· == x) := by
  rw [List.any_map]
  exact any_congr' fun y h => beq_f hf (hy y h) hx
theorem off_f (hf : ∀ i j, i ≤ n → j ≤ n → f i = f j → i = j) {xs ys : List Nat} (hx : ∀ y ∈ xs, y ≤ n) (hy : ∀ y ∈ ys, y ≤ n) : offL (xs.map f) (ys.map f) = (offN xs ys).map f := by
  unfold offL offN
  rw [List.filter_map]
  congr 1
  exact List.filter_congr fun x h => by show (!(ys.map f).any (· == f x)) = _; rw [any_f hf hy (hx x h)]

theorem tree_ix {n0 : Str} {ns : List Str} (hI : n0 :: ns = (ixI n).map f) (hJ : ns = (ixJ n).map f) (hf : ∀ i j, i ≤ n → j ≤ n → f i = f j → i = j) (hl : ∀ i, i ≤ n → look lad (f i) = some ((L.getD i []).map f))
    (X : IxOk n L P) (hr : ∀ i, i < n → Row (f (i + 1)) (f (P.getD i 0)) ((L.getD (i + 1) []).map f)) (h0 : Row (f 0) (parS (f 0)) ((L.getD 0 []).map f) ∧ reachP (f 0) = f 0) : TreeOk n0 ns lad := by
  have hn0 : n0 = f 0 := by
    have : (ixI n).map f = f 0 :: ((List.range n).map (· + 1)).map f := by unfold ixI; rw [List.range_succ_eq_map]; rfl
    rw [this] at hI
    exact (List.cons.inj hI).1
  have memI : ∀ {a : Str}, a ∈ n0 :: ns → ∃ i, i ≤ n ∧ a = f i := fun h => by
    rw [hI] at h
    obtain ⟨i, hi, e⟩ := List.mem_map.mp h
    exact ⟨i, ixI_mem.mp hi, e.symm⟩
  have memI' : ∀ {i : Nat}, i ≤ n → f i ∈ n0 :: ns := fun h => by rw [hI]; exact List.mem_map_of_mem (ixI_mem.mpr h)
  have memJ : ∀ {a : Str}, a ∈ ns → ∃ i, 0 < i ∧ i ≤ n ∧ a = f i := fun h => by
    rw [hJ] at h
    obtain ⟨i, hi, e⟩ := List.mem_map.mp h
    exact ⟨i, (ixJ_mem.mp hi).1, (ixJ_mem.mp hi).2, e.symm⟩
  have memJ' : ∀ {i : Nat}, 0 < i → i ≤ n → f i ∈ ns := fun h h' => by rw [hJ]; exact List.mem_map_of_mem (ixJ_mem.mpr ⟨h, h'⟩)
  have hLb : ∀ i, i ≤ n → ∀ x ∈ L.getD i [], x ≤ n := fun i hi => (X.inb i (ixI_mem.mpr hi)).1
  have IN : ∀ {i x : Nat}, i ≤ n → x ≤ n → inL lad (f i) (f x) = inN L i x := fun {i x} hi hx => by
    unfold inL inN
    rw [hl i hi, Option.getD_some]
    exact any_f hf (hLb i hi) hx
  have LK : ∀ {a c : Nat}, a ≤ n → c ≤ n → linksLL lad (f a) (f c) = (linksN L a c).map f := fun {a c} ha hc => by
    unfold linksLL linksL linksN
    rw [hl a ha, hl c hc, Option.getD_some, Option.getD_some, off_f hf (hLb a ha) (hLb c hc), off_f hf (hLb c hc) (hLb a ha), List.map_append]
  have VT : ∀ {c a p : Nat}, c ≤ n → a ≤ n → p ≤ n → vot lad (f c) (f a) (f p) = votN L c a p := fun {c a p} hc ha hp => by
    unfold vot voteK votN
    rw [LK hc hp, LK ha hp, List.length_map, List.length_map]
  have rowI : ∀ i, i ≤ n → ∃ p, Row (f i) p ((L.getD i []).map f) := fun i hi => by
    cases i with
    | zero => exact ⟨_, h0.1⟩
    | succ i => exact ⟨_, hr i (by omega)⟩
  have hPle : ∀ i, i < n → P.getD i 0 ≤ i := fun i hi => X.par i (List.mem_range.mpr hi)
  constructor
  · intro a ha
    obtain ⟨i, hi, rfl⟩ := memI ha
    obtain ⟨p, R⟩ := rowI i hi
    exact R.small
  · rw [hI]
    exact nodup_f hf (fun x hx => ixI_mem.mp hx) List.nodup_range
  · intro a ha
    obtain ⟨i, hi, rfl⟩ := memI ha
    cases i with
    | zero => exact ⟨h0.1.ok, fun h => absurd h0.2 h⟩
    | succ i =>
      have R := hr i (by omega)
      refine ⟨R.ok, fun h => ?_⟩
      rw [R.par]
      exact ⟨memI' (by have := hPle i (by omega); omega), R.up.resolve_left h⟩
  · intro i hi
    have hin : i < n := by rw [hJ] at hi; simpa [ixJ] using hi
    have e : ns.getD i "" = f (i + 1) := by rw [hJ]; simp [ixJ, hin]
    rw [e, (hr i hin).par, hI]
    have : ((ixI n).map f).take (i + 1) = (List.range (i + 1)).map f := by
      rw [← List.map_take]
      unfold ixI
      rw [List.take_range]
      congr 2
      omega
    rw [this]
    exact List.mem_map_of_mem (List.mem_range.mpr (by have := hPle i hin; omega))
  · intro a ha
    obtain ⟨i, hi, rfl⟩ := memI ha
    obtain ⟨p, R⟩ := rowI i hi
    obtain ⟨k1, k2, k3⟩ := X.inb i (ixI_mem.mpr hi)
    rw [R.cl]
    exact ⟨hl i hi, by rw [List.length_map]; exact k2, nodup_f hf k1 k3⟩
  · refine ⟨fun x hx => ?_, fun a ha => ?_⟩
    · obtain ⟨i, h1, h2, rfl⟩ := memJ hx
      rw [hn0, IN (Nat.zero_le _) h2]
      exact X.root.1 i (ixJ_mem.mpr ⟨h1, h2⟩)
    · obtain ⟨i, h2, rfl⟩ := memI ha
      rw [hn0, IN h2 (Nat.zero_le _)]
      exact X.root.2 i (ixI_mem.mpr h2)
  · intro a ha
    obtain ⟨i, h1, h2, rfl⟩ := memJ ha
    obtain ⟨i, rfl⟩ : ∃ j, i = j + 1 := ⟨i - 1, by omega⟩
    have S := X.step i (List.mem_range.mpr (by omega))
    have hp : P.getD i 0 ≤ n := by have := hPle i (by omega); omega
    rw [(hr i (by omega)).par]
    refine ⟨fun x hx => ?_, ?_⟩
    · obtain ⟨j, g1, g2, rfl⟩ := memJ hx
      rw [IN h2 g2, IN hp g2, beq_f hf g2 h2]
      exact S.1 j (ixJ_mem.mpr ⟨g1, g2⟩)
    · rw [IN hp h2]; exact S.2
  · intro a ha c hc
    obtain ⟨i, h2, rfl⟩ := memI ha
    obtain ⟨j, g2, rfl⟩ := memI hc
    rw [LK h2 g2, hJ, List.filter_map]
    refine List.Perm.map f ?_
    have : (ixJ n).filter ((fun x => inL lad (f i) x != inL lad (f j) x) ∘ f) = (ixJ n).filter fun x => inN L i x != inN L j x :=
      List.filter_congr fun x hx => by
        show (inL lad (f i) (f x) != inL lad (f j) (f x)) = _
        rw [IN h2 (ixJ_mem.mp hx).2, IN g2 (ixJ_mem.mp hx).2]
    rw [this]
    exact X.perm i (ixI_mem.mpr h2) j (ixI_mem.mpr g2)
  · intro a ha c hc
    obtain ⟨i, h2, rfl⟩ := memI ha
    obtain ⟨j, g2, rfl⟩ := memI hc
    rcases X.f1 i (ixI_mem.mpr h2) j (ixI_mem.mpr g2) with h | ⟨b, hb, e, he, k1, k2⟩
    · exact .inl (by rw [h])
    · have hb := ixI_mem.mp hb
      have he := ixJ_mem.mp he
      refine .inr ⟨f b, memI' hb, f e, memJ' he.1 he.2, fun x hx => ?_, fun p hp => ?_⟩
      · obtain ⟨y, y1, y2, rfl⟩ := memJ hx
        rw [IN hb y2, IN h2 y2, beq_f hf y2 he.2]
        exact k1 y (ixJ_mem.mpr ⟨y1, y2⟩)
      · obtain ⟨y, y2, rfl⟩ := memI hp
        rw [IN y2 he.2, IN h2 he.2, VT g2 h2 y2]
        exact k2 y (ixI_mem.mpr y2)
  · intro a ha x hx
    obtain ⟨i, h2, rfl⟩ := memI ha
    obtain ⟨j, g1, g2, rfl⟩ := memJ hx
    obtain ⟨b, hb, e, he, k⟩ := X.f2 i (ixI_mem.mpr h2) j (ixJ_mem.mpr ⟨g1, g2⟩)
    have hb := ixI_mem.mp hb
    have he := ixJ_mem.mp he
    refine ⟨f b, memI' hb, f e, memJ' he.1 he.2, fun p hp => ?_⟩
    obtain ⟨y, y2, rfl⟩ := memI hp
    rw [IN y2 g2, IN h2 g2, IN y2 he.2, IN h2 he.2, VT hb h2 y2]
    exact k y (ixI_mem.mpr y2)
end
def plJ (top : Str) (js : List Nat) : PL := plRun 0 (js.map fun j => (j, (1 : Int))) (plInit top)
def TreeP (top : Str) (js : List Nat) : Prop := ∃ n0 ns, (plJ top js).1 = n0 :: ns ∧ TreeOk n0 ns (plJ top js).2.1
def ckB (s : PL) (nl : List Str) (lad : List (Str × List Str)) (L : List (List Nat)) : Bool := decide (s.1 = nl) && decide (s.2.1 = lad) && decide (nl.Nodup) && (List.range nl.length).all fun i => decide (look lad (nl.getD i "") = some ((L.getD i []).map fun x => nl.getD x ""))
def RowsP (nl : List Str) (L : List (List Nat)) (js : List Nat) : Nat → Prop
  | 0 => True
  | k + 1 => RowsP nl L js k ∧ Row (nl.getD (k + 1) "") (nl.getD (js.getD k 0) "") ((L.getD (k + 1) []).map fun x => nl.getD x "")
theorem rowsP_at {nl : List Str} {L : List (List Nat)} {js : List Nat} : ∀ {n : Nat}, RowsP nl L js n → ∀ i, i < n → Row (nl.getD (i + 1) "") (nl.getD (js.getD i 0) "") ((L.getD (i + 1) []).map fun x => nl.getD x "")
  | 0, _, i, h => absurd h (Nat.not_lt_zero i)
  | n + 1, H, i, h => by
    by_cases e : i = n
    · subst e; exact H.2
    · exact rowsP_at H.1 i (by omega)
theorem map_getD (l : List Str) : (List.range l.length).map (fun i => l.getD i "") = l := by
  refine List.ext_getElem (by simp) fun i h1 h2 => ?_
  simp [h2]
theorem tree_of {top : Str} {js : List Nat} {nl : List Str} {lad : List (Str × List Str)} {L : List (List Nat)} {n : Nat} (hc : ckB (plJ top js) nl lad L = true) (hn : nl.length = n + 1) (X : ixB n L js = true) (hr : RowsP nl L js n)
    (h0 : Row (nl.getD 0 "") (parS (nl.getD 0 "")) ((L.getD 0 []).map fun x => nl.getD x "") ∧ reachP (nl.getD 0 "") = nl.getD 0 "") : TreeP top js := by
  unfold ckB at hc
  simp only [Bool.and_eq_true, decide_eq_true_eq, List.all_eq_true, List.mem_range] at hc
  obtain ⟨⟨⟨e1, e2⟩, nd⟩, hl⟩ := hc
  unfold TreeP
  rw [e1, e2]
  have hI : (ixI n).map (fun i => nl.getD i "") = nl := by unfold ixI; rw [← hn]; exact map_getD nl
  cases nl with
  | nil => cases hn
  | cons n0 ns =>
    refine ⟨n0, ns, rfl, tree_ix (f := fun i => (n0 :: ns).getD i "") hI.symm ?_ ?_ (fun i hi => hl i (by omega)) (ixB_ok X) (rowsP_at hr) h0⟩
    · unfold ixI at hI
      rw [List.range_succ_eq_map, List.map_cons] at hI
      exact (List.cons.inj hI).2.symm
    · intro i j hi hj e
      have hi' : i < (n0 :: ns).length := by omega
      have hj' : j < (n0 :: ns).length := by omega
      simp only [List.getD_eq_getElem?_getD, List.getElem?_eq_getElem hi', List.getElem?_eq_getElem hj', Option.getD_some] at e
      have hp := List.pairwise_iff_getElem.mp nd
      rcases Nat.lt_trichotomy i j with h | h | h
      · exact absurd e (hp i j hi' hj' h)
      · exact h
      · exact absurd e.symm (hp j i hj' hi' h)
theorem fa_nil {P : List Nat → Prop} : ∀ x ∈ ([] : List (List Nat)), P x := fun _ h => nomatch h
theorem fa_cons {P : List Nat → Prop} {a : List Nat} {l : List (List Nat)} (h : P a) (t : ∀ x ∈ l, P x) : ∀ x ∈ a :: l, P x := fun x hx => by
  rcases List.mem_cons.mp hx with rfl | hx
  · exact h
  · exact t x hx
end Mine

end
section
open PySem PySem.W PyProof.Rows PySem.Calls PySem.Spec PySem.Builtin PySem.Builtin.Str
set_option Elab.async false
set_option maxRecDepth 100000
set_option maxHeartbeats 4000000
set_option linter.unusedVariables false
namespace Mine
def nl0 : Str := ⟨#[108, 111, 99, 97, 108]⟩
def nl1 : Str := ⟨#[97, 46, 108, 111, 99, 97, 108]⟩
def nl2 : Str := ⟨#[34, 46, 108, 111, 99, 97, 108]⟩
def nl3 : Str := ⟨#[34, 46, 97, 46, 108, 111, 99, 97, 108]⟩
def nl4 : Str := ⟨#[98, 92, 46, 108, 111, 99, 97, 108]⟩
def nl5 : Str := ⟨#[98, 92, 46, 97, 46, 108, 111, 99, 97, 108]⟩
def nl6 : Str := ⟨#[98, 92, 46, 34, 46, 108, 111, 99, 97, 108]⟩
def nl7 : Str := ⟨#[98, 92, 46, 34, 46, 97, 46, 108, 111, 99, 97, 108]⟩
def nl8 : Str := ⟨#[32, 35, 46, 108, 111, 99, 97, 108]⟩
def nl9 : Str := ⟨#[32, 35, 46, 97, 46, 108, 111, 99, 97, 108]⟩
def nl10 : Str := ⟨#[32, 35, 46, 34, 46, 108, 111, 99, 97, 108]⟩
def nl11 : Str := ⟨#[32, 35, 46, 34, 46, 97, 46, 108, 111, 99, 97, 108]⟩
def nl12 : Str := ⟨#[32, 35, 46, 98, 92, 46, 108, 111, 99, 97, 108]⟩
def nl13 : Str := ⟨#[32, 35, 46, 98, 92, 46, 97, 46, 108, 111, 99, 97, 108]⟩
def nl14 : Str := ⟨#[32, 35, 46, 98, 92, 46, 34, 46, 108, 111, 99, 97, 108]⟩
def nl15 : Str := ⟨#[32, 35, 46, 98, 92, 46, 34, 46, 97, 46, 108, 111, 99, 97, 108]⟩
theorem kl0 : Row nl0 (parS nl0) [nl0] ∧ reachP nl0 = nl0 := ⟨rowB_ok (by decide +kernel), by decide +kernel⟩
theorem kl1 : Row nl1 nl0 [nl1, nl0] := rowB_ok (by decide +kernel)
theorem kl2 : Row nl2 nl0 [nl2, nl0] := rowB_ok (by decide +kernel)
theorem kl3 : Row nl3 nl1 [nl3, nl1, nl0] := rowB_ok (by decide +kernel)
theorem kl4 : Row nl4 nl0 [nl4, nl0] := rowB_ok (by decide +kernel)
theorem kl5 : Row nl5 nl1 [nl5, nl1, nl0] := rowB_ok (by decide +kernel)
theorem kl6 : Row nl6 nl2 [nl6, nl2, nl0] := rowB_ok (by decide +kernel)
theorem kl7 : Row nl7 nl3 [nl7, nl3, nl1, nl0] := rowB_ok (by decide +kernel)
theorem kl8 : Row nl8 nl0 [nl8, nl0] := rowB_ok (by decide +kernel)
theorem kl9 : Row nl9 nl1 [nl9, nl1, nl0] := rowB_ok (by decide +kernel)
theorem kl10 : Row nl10 nl2 [nl10, nl2, nl0] := rowB_ok (by decide +kernel)
theorem kl11 : Row nl11 nl3 [nl11, nl3, nl1, nl0] := rowB_ok (by decide +kernel)
theorem kl12 : Row nl12 nl4 [nl12, nl4, nl0] := rowB_ok (by decide +kernel)
theorem kl13 : Row nl13 nl5 [nl13, nl5, nl1, nl0] := rowB_ok (by decide +kernel)
theorem kl14 : Row nl14 nl6 [nl14, nl6, nl2, nl0] := rowB_ok (by decide +kernel)
theorem kl15 : Row nl15 nl7 [nl15, nl7, nl3, nl1, nl0] := rowB_ok (by decide +kernel)
def nc0 : Str := ⟨#[99, 55, 46, 110, 101, 116]⟩
def nc1 : Str := ⟨#[97, 46, 99, 55, 46, 110, 101, 116]⟩
def nc2 : Str := ⟨#[34, 46, 99, 55, 46, 110, 101, 116]⟩
def nc3 : Str := ⟨#[34, 46, 97, 46, 99, 55, 46, 110, 101, 116]⟩
def nc4 : Str := ⟨#[98, 92, 46, 99, 55, 46, 110, 101, 116]⟩
def nc5 : Str := ⟨#[98, 92, 46, 97, 46, 99, 55, 46, 110, 101, 116]⟩
def nc6 : Str := ⟨#[98, 92, 46, 34, 46, 99, 55, 46, 110, 101, 116]⟩
def nc7 : Str := ⟨#[98, 92, 46, 34, 46, 97, 46, 99, 55, 46, 110, 101, 116]⟩
def nc8 : Str := ⟨#[32, 35, 46, 99, 55, 46, 110, 101, 116]⟩
def nc9 : Str := ⟨#[32, 35, 46, 97, 46, 99, 55, 46, 110, 101, 116]⟩
def nc10 : Str := ⟨#[32, 35, 46, 34, 46, 99, 55, 46, 110, 101, 116]⟩
def nc11 : Str := ⟨#[32, 35, 46, 34, 46, 97, 46, 99, 55, 46, 110, 101, 116]⟩
def nc12 : Str := ⟨#[32, 35, 46, 98, 92, 46, 99, 55, 46, 110, 101, 116]⟩
def nc13 : Str := ⟨#[32, 35, 46, 98, 92, 46, 97, 46, 99, 55, 46, 110, 101, 116]⟩
def nc14 : Str := ⟨#[32, 35, 46, 98, 92, 46, 34, 46, 99, 55, 46, 110, 101, 116]⟩
def nc15 : Str := ⟨#[32, 35, 46, 98, 92, 46, 34, 46, 97, 46, 99, 55, 46, 110, 101, 116]⟩
theorem kc0 : Row nc0 (parS nc0) [nc0] ∧ reachP nc0 = nc0 := ⟨rowB_ok (by decide +kernel), by decide +kernel⟩
theorem kc1 : Row nc1 nc0 [nc1, nc0] := rowB_ok (by decide +kernel)
theorem kc2 : Row nc2 nc0 [nc2, nc0] := rowB_ok (by decide +kernel)
theorem kc3 : Row nc3 nc1 [nc3, nc1, nc0] := rowB_ok (by decide +kernel)
theorem kc4 : Row nc4 nc0 [nc4, nc0] := rowB_ok (by decide +kernel)
theorem kc5 : Row nc5 nc1 [nc5, nc1, nc0] := rowB_ok (by decide +kernel)
theorem kc6 : Row nc6 nc2 [nc6, nc2, nc0] := rowB_ok (by decide +kernel)
theorem kc7 : Row nc7 nc3 [nc7, nc3, nc1, nc0] := rowB_ok (by decide +kernel)
theorem kc8 : Row nc8 nc0 [nc8, nc0] := rowB_ok (by decide +kernel)
theorem kc9 : Row nc9 nc1 [nc9, nc1, nc0] := rowB_ok (by decide +kernel)
theorem kc10 : Row nc10 nc2 [nc10, nc2, nc0] := rowB_ok (by decide +kernel)
theorem kc11 : Row nc11 nc3 [nc11, nc3, nc1, nc0] := rowB_ok (by decide +kernel)
theorem kc12 : Row nc12 nc4 [nc12, nc4, nc0] := rowB_ok (by decide +kernel)
theorem kc13 : Row nc13 nc5 [nc13, nc5, nc1, nc0] := rowB_ok (by decide +kernel)
theorem kc14 : Row nc14 nc6 [nc14, nc6, nc2, nc0] := rowB_ok (by decide +kernel)
theorem kc15 : Row nc15 nc7 [nc15, nc7, nc3, nc1, nc0] := rowB_ok (by decide +kernel)
theorem x000 : ixB 3 [[0], [1, 0], [2, 0], [3, 0]] [0, 0, 0] = true := by decide +kernel
theorem tl000 : TreeP nl0 [0, 0, 0] := tree_of (nl := [nl0, nl1, nl2, nl4]) (lad := [(nl0, [nl0]), (nl1, [nl1, nl0]), (nl2, [nl2, nl0]), (nl4, [nl4, nl0])]) (L := [[0], [1, 0], [2, 0], [3, 0]]) (n := 3) (by decide +kernel) rfl x000 (And.intro (And.intro (And.intro trivial kl1) kl2) kl4) kl0
theorem tc000 : TreeP nc0 [0, 0, 0] := tree_of (nl := [nc0, nc1, nc2, nc4]) (lad := [(nc0, [nc0]), (nc1, [nc1, nc0]), (nc2, [nc2, nc0]), (nc4, [nc4, nc0])]) (L := [[0], [1, 0], [2, 0], [3, 0]]) (n := 3) (by decide +kernel) rfl x000 (And.intro (And.intro (And.intro trivial kc1) kc2) kc4) kc0
theorem x001 : ixB 3 [[0], [1, 0], [2, 0], [3, 1, 0]] [0, 0, 1] = true := by decide +kernel
theorem tl001 : TreeP nl0 [0, 0, 1] := tree_of (nl := [nl0, nl1, nl2, nl5]) (lad := [(nl0, [nl0]), (nl1, [nl1, nl0]), (nl2, [nl2, nl0]), (nl5, [nl5, nl1, nl0])]) (L := [[0], [1, 0], [2, 0], [3, 1, 0]]) (n := 3) (by decide +kernel) rfl x001 (And.intro (And.intro (And.intro trivial kl1) kl2) kl5) kl0
theorem tc001 : TreeP nc0 [0, 0, 1] := tree_of (nl := [nc0, nc1, nc2, nc5]) (lad := [(nc0, [nc0]), (nc1, [nc1, nc0]), (nc2, [nc2, nc0]), (nc5, [nc5, nc1, nc0])]) (L := [[0], [1, 0], [2, 0], [3, 1, 0]]) (n := 3) (by decide +kernel) rfl x001 (And.intro (And.intro (And.intro trivial kc1) kc2) kc5) kc0
theorem x002 : ixB 3 [[0], [1, 0], [2, 0], [3, 2, 0]] [0, 0, 2] = true := by decide +kernel
theorem tl002 : TreeP nl0 [0, 0, 2] := tree_of (nl := [nl0, nl1, nl2, nl6]) (lad := [(nl0, [nl0]), (nl1, [nl1, nl0]), (nl2, [nl2, nl0]), (nl6, [nl6, nl2, nl0])]) (L := [[0], [1, 0], [2, 0], [3, 2, 0]]) (n := 3) (by decide +kernel) rfl x002 (And.intro (And.intro (And.intro trivial kl1) kl2) kl6) kl0
theorem tc002 : TreeP nc0 [0, 0, 2] := tree_of (nl := [nc0, nc1, nc2, nc6]) (lad := [(nc0, [nc0]), (nc1, [nc1, nc0]), (nc2, [nc2, nc0]), (nc6, [nc6, nc2, nc0])]) (L := [[0], [1, 0], [2, 0], [3, 2, 0]]) (n := 3) (by decide +kernel) rfl x002 (And.intro (And.intro (And.intro trivial kc1) kc2) kc6) kc0
theorem x010 : ixB 3 [[0], [1, 0], [2, 1, 0], [3, 0]] [0, 1, 0] = true := by decide +kernel
theorem tl010 : TreeP nl0 [0, 1, 0] := tree_of (nl := [nl0, nl1, nl3, nl4]) (lad := [(nl0, [nl0]), (nl1, [nl1, nl0]), (nl3, [nl3, nl1, nl0]), (nl4, [nl4, nl0])]) (L := [[0], [1, 0], [2, 1, 0], [3, 0]]) (n := 3) (by decide +kernel) rfl x010 (And.intro (And.intro (And.intro trivial kl1) kl3) kl4) kl0
theorem tc010 : TreeP nc0 [0, 1, 0] := tree_of (nl := [nc0, nc1, nc3, nc4]) (lad := [(nc0, [nc0]), (nc1, [nc1, nc0]), (nc3, [nc3, nc1, nc0]), (nc4, [nc4, nc0])]) (L := [[0], [1, 0], [2, 1, 0], [3, 0]]) (n := 3) (by decide +kernel) rfl x010 (And.intro (And.intro (And.intro trivial kc1) kc3) kc4) kc0
theorem x011 : ixB 3 [[0], [1, 0], [2, 1, 0], [3, 1, 0]] [0, 1, 1] = true := by decide +kernel
theorem tl011 : TreeP nl0 [0, 1, 1] := tree_of (nl := [nl0, nl1, nl3, nl5]) (lad := [(nl0, [nl0]), (nl1, [nl1, nl0]), (nl3, [nl3, nl1, nl0]), (nl5, [nl5, nl1, nl0])]) (L := [[0], [1, 0], [2, 1, 0], [3, 1, 0]]) (n := 3) (by decide +kernel) rfl x011 (And.intro (And.intro (And.intro trivial kl1) kl3) kl5) kl0
theorem tc011 : TreeP nc0 [0, 1, 1] := tree_of (nl := [nc0, nc1, nc3, nc5]) (lad := [(nc0, [nc0]), (nc1, [nc1, nc0]), (nc3, [nc3, nc1, nc0]), (nc5, [nc5, nc1, nc0])]) (L := [[0], [1, 0], [2, 1, 0], [3, 1, 0]]) (n := 3) (by decide +kernel) rfl x011 (And.intro (And.intro (And.intro trivial kc1) kc3) kc5) kc0
theorem x012 : ixB 3 [[0], [1, 0], [2, 1, 0], [3, 2, 1, 0]] [0, 1, 2] = true := by decide +kernel
theorem tl012 : TreeP nl0 [0, 1, 2] := tree_of (nl := [nl0, nl1, nl3, nl7]) (lad := [(nl0, [nl0]), (nl1, [nl1, nl0]), (nl3, [nl3, nl1, nl0]), (nl7, [nl7, nl3, nl1, nl0])]) (L := [[0], [1, 0], [2, 1, 0], [3, 2, 1, 0]]) (n := 3) (by decide +kernel) rfl x012 (And.intro (And.intro (And.intro trivial kl1) kl3) kl7) kl0
theorem tc012 : TreeP nc0 [0, 1, 2] := tree_of (nl := [nc0, nc1, nc3, nc7]) (lad := [(nc0, [nc0]), (nc1, [nc1, nc0]), (nc3, [nc3, nc1, nc0]), (nc7, [nc7, nc3, nc1, nc0])]) (L := [[0], [1, 0], [2, 1, 0], [3, 2, 1, 0]]) (n := 3) (by decide +kernel) rfl x012 (And.intro (And.intro (And.intro trivial kc1) kc3) kc7) kc0
theorem x0000 : ixB 4 [[0], [1, 0], [2, 0], [3, 0], [4, 0]] [0, 0, 0, 0] = true := by decide +kernel
theorem tl0000 : TreeP nl0 [0, 0, 0, 0] := tree_of (nl := [nl0, nl1, nl2, nl4, nl8]) (lad := [(nl0, [nl0]), (nl1, [nl1, nl0]), (nl2, [nl2, nl0]), (nl4, [nl4, nl0]), (nl8, [nl8, nl0])]) (L := [[0], [1, 0], [2, 0], [3, 0], [4, 0]]) (n := 4) (by decide +kernel) rfl x0000 (And.intro (And.intro (And.intro (And.intro trivial kl1) kl2) kl4) kl8) kl0
theorem tc0000 : TreeP nc0 [0, 0, 0, 0] := tree_of (nl := [nc0, nc1, nc2, nc4, nc8]) (lad := [(nc0, [nc0]), (nc1, [nc1, nc0]), (nc2, [nc2, nc0]), (nc4, [nc4, nc0]), (nc8, [nc8, nc0])]) (L := [[0], [1, 0], [2, 0], [3, 0], [4, 0]]) (n := 4) (by decide +kernel) rfl x0000 (And.intro (And.intro (And.intro (And.intro trivial kc1) kc2) kc4) kc8) kc0
theorem x0001 : ixB 4 [[0], [1, 0], [2, 0], [3, 0], [4, 1, 0]] [0, 0, 0, 1] = true := by decide +kernel
theorem tl0001 : TreeP nl0 [0, 0, 0, 1] := tree_of (nl := [nl0, nl1, nl2, nl4, nl9]) (lad := [(nl0, [nl0]), (nl1, [nl1, nl0]), (nl2, [nl2, nl0]), (nl4, [nl4, nl0]), (nl9, [nl9, nl1, nl0])]) (L := [[0], [1, 0], [2, 0], [3, 0], [4, 1, 0]]) (n := 4) (by decide +kernel) rfl x0001 (And.intro (And.intro (And.intro (And.intro trivial kl1) kl2) kl4) kl9) kl0
theorem tc0001 : TreeP nc0 [0, 0, 0, 1] := tree_of (nl := [nc0, nc1, nc2, nc4, nc9]) (lad := [(nc0, [nc0]), (nc1, [nc1, nc0]), (nc2, [nc2, nc0]), (nc4, [nc4, nc0]), (nc9, [nc9, nc1, nc0])]) (L := [[0], [1, 0], [2, 0], [3, 0], [4, 1, 0]]) (n := 4) (by decide +kernel) rfl x0001 (And.intro (And.intro (And.intro (And.intro trivial kc1) kc2) kc4) kc9) kc0
theorem x0002 : ixB 4 [[0], [1, 0], [2, 0], [3, 0], [4, 2, 0]] [0, 0, 0, 2] = true := by decide +kernel
theorem tl0002 : TreeP nl0 [0, 0, 0, 2] := tree_of (nl := [nl0, nl1, nl2, nl4, nl10]) (lad := [(nl0, [nl0]), (nl1, [nl1, nl0]), (nl2, [nl2, nl0]), (nl4, [nl4, nl0]), (nl10, [nl10, nl2, nl0])]) (L := [[0], [1, 0], [2, 0], [3, 0], [4, 2, 0]]) (n := 4) (by decide +kernel) rfl x0002 (And.intro (And.intro (And.intro (And.intro trivial kl1) kl2) kl4) kl10) kl0
theorem tc0002 : TreeP nc0 [0, 0, 0, 2] := tree_of (nl := [nc0, nc1, nc2, nc4, nc10]) (lad := [(nc0, [nc0]), (nc1, [nc1, nc0]), (nc2, [nc2, nc0]), (nc4, [nc4, nc0]), (nc10, [nc10, nc2, nc0])]) (L := [[0], [1, 0], [2, 0], [3, 0], [4, 2, 0]]) (n := 4) (by decide +kernel) rfl x0002 (And.intro (And.intro (And.intro (And.intro trivial kc1) kc2) kc4) kc10) kc0
theorem x0003 : ixB 4 [[0], [1, 0], [2, 0], [3, 0], [4, 3, 0]] [0, 0, 0, 3] = true := by decide +kernel
theorem tl0003 : TreeP nl0 [0, 0, 0, 3] := tree_of (nl := [nl0, nl1, nl2, nl4, nl12]) (lad := [(nl0, [nl0]), (nl1, [nl1, nl0]), (nl2, [nl2, nl0]), (nl4, [nl4, nl0]), (nl12, [nl12, nl4, nl0])]) (L := [[0], [1, 0], [2, 0], [3, 0], [4, 3, 0]]) (n := 4) (by decide +kernel) rfl x0003 (And.intro (And.intro (And.intro (And.intro trivial kl1) kl2) kl4) kl12) kl0
theorem tc0003 : TreeP nc0 [0, 0, 0, 3] := tree_of (nl := [nc0, nc1, nc2, nc4, nc12]) (lad := [(nc0, [nc0]), (nc1, [nc1, nc0]), (nc2, [nc2, nc0]), (nc4, [nc4, nc0]), (nc12, [nc12, nc4, nc0])]) (L := [[0], [1, 0], [2, 0], [3, 0], [4, 3, 0]]) (n := 4) (by decide +kernel) rfl x0003 (And.intro (And.intro (And.intro (And.intro trivial kc1) kc2) kc4) kc12) kc0
theorem x0010 : ixB 4 [[0], [1, 0], [2, 0], [3, 1, 0], [4, 0]] [0, 0, 1, 0] = true := by decide +kernel
theorem tl0010 : TreeP nl0 [0, 0, 1, 0] := tree_of (nl := [nl0, nl1, nl2, nl5, nl8]) (lad := [(nl0, [nl0]), (nl1, [nl1, nl0]), (nl2, [nl2, nl0]), (nl5, [nl5, nl1, nl0]), (nl8, [nl8, nl0])]) (L := [[0], [1, 0], [2, 0], [3, 1, 0], [4, 0]]) (n := 4) (by decide +kernel) rfl x0010 (And.intro (And.intro (And.intro (And.intro trivial kl1) kl2) kl5) kl8) kl0
theorem tc0010 : TreeP nc0 [0, 0, 1, 0] := tree_of (nl := [nc0, nc1, nc2, nc5, nc8]) (lad := [(nc0, [nc0]), (nc1, [nc1, nc0]), (nc2, [nc2, nc0]), (nc5, [nc5, nc1, nc0]), (nc8, [nc8, nc0])]) (L := [[0], [1, 0], [2, 0], [3, 1, 0], [4, 0]]) (n := 4) (by decide +kernel) rfl x0010 (And.intro (And.intro (And.intro (And.intro trivial kc1) kc2) kc5) kc8) kc0
theorem x0011 : ixB 4 [[0], [1, 0], [2, 0], [3, 1, 0], [4, 1, 0]] [0, 0, 1, 1] = true := by decide +kernel
theorem tl0011 : TreeP nl0 [0, 0, 1, 1] := tree_of (nl := [nl0, nl1, nl2, nl5, nl9]) (lad := [(nl0, [nl0]), (nl1, [nl1, nl0]), (nl2, [nl2, nl0]), (nl5, [nl5, nl1, nl0]), (nl9, [nl9, nl1, nl0])]) (L := [[0], [1, 0], [2, 0], [3, 1, 0], [4, 1, 0]]) (n := 4) (by decide +kernel) rfl x0011 (And.intro (And.intro (And.intro (And.intro trivial kl1) kl2) kl5) kl9) kl0
theorem tc0011 : TreeP nc0 [0, 0, 1, 1] := tree_of (nl := [nc0, nc1, nc2, nc5, nc9]) (lad := [(nc0, [nc0]), (nc1, [nc1, nc0]), (nc2, [nc2, nc0]), (nc5, [nc5, nc1, nc0]), (nc9, [nc9, nc1, nc0])]) (L := [[0], [1, 0], [2, 0], [3, 1, 0], [4, 1, 0]]) (n := 4) (by decide +kernel) rfl x0011 (And.intro (And.intro (And.intro (And.intro trivial kc1) kc2) kc5) kc9) kc0
theorem x0012 : ixB 4 [[0], [1, 0], [2, 0], [3, 1, 0], [4, 2, 0]] [0, 0, 1, 2] = true := by decide +kernel
theorem tl0012 : TreeP nl0 [0, 0, 1, 2] := tree_of (nl := [nl0, nl1, nl2, nl5, nl10]) (lad := [(nl0, [nl0]), (nl1, [nl1, nl0]), (nl2, [nl2, nl0]), (nl5, [nl5, nl1, nl0]), (nl10, [nl10, nl2, nl0])]) (L := [[0], [1, 0], [2, 0], [3, 1, 0], [4, 2, 0]]) (n := 4) (by decide +kernel) rfl x0012 (And.intro (And.intro (And.intro (And.intro trivial kl1) kl2) kl5) kl10) kl0
theorem tc0012 : TreeP nc0 [0, 0, 1, 2] := tree_of (nl := [nc0, nc1, nc2, nc5, nc10]) (lad := [(nc0, [nc0]), (nc1, [nc1, nc0]), (nc2, [nc2, nc0]), (nc5, [nc5, nc1, nc0]), (nc10, [nc10, nc2, nc0])]) (L := [[0], [1, 0], [2, 0], [3, 1, 0], [4, 2, 0]]) (n := 4) (by decide +kernel) rfl x0012 (And.intro (And.intro (And.intro (And.intro trivial kc1) kc2) kc5) kc10) kc0
theorem x0013 : ixB 4 [[0], [1, 0], [2, 0], [3, 1, 0], [4, 3, 1, 0]] [0, 0, 1, 3] = true := by decide +kernel
theorem tl0013 : TreeP nl0 [0, 0, 1, 3] := tree_of (nl := [nl0, nl1, nl2, nl5, nl13]) (lad := [(nl0, [nl0]), (nl1, [nl1, nl0]), (nl2, [nl2, nl0]), (nl5, [nl5, nl1, nl0]), (nl13, [nl13, nl5, nl1, nl0])]) (L := [[0], [1, 0], [2, 0], [3, 1, 0], [4, 3, 1, 0]]) (n := 4) (by decide +kernel) rfl x0013 (And.intro (And.intro (And.intro (And.intro trivial kl1) kl2) kl5) kl13) kl0
theorem tc0013 : TreeP nc0 [0, 0, 1, 3] := tree_of (nl := [nc0, nc1, nc2, nc5, nc13]) (lad := [(nc0, [nc0]), (nc1, [nc1, nc0]), (nc2, [nc2, nc0]), (nc5, [nc5, nc1, nc0]), (nc13, [nc13, nc5, nc1, nc0])]) (L := [[0], [1, 0], [2, 0], [3, 1, 0], [4, 3, 1, 0]]) (n := 4) (by decide +kernel) rfl x0013 (And.intro (And.intro (And.intro (And.intro trivial kc1) kc2) kc5) kc13) kc0
theorem x0020 : ixB 4 [[0], [1, 0], [2, 0], [3, 2, 0], [4, 0]] [0, 0, 2, 0] = true := by decide +kernel
theorem tl0020 : TreeP nl0 [0, 0, 2, 0] := tree_of (nl := [nl0, nl1, nl2, nl6, nl8]) (lad := [(nl0, [nl0]), (nl1, [nl1, nl0]), (nl2, [nl2, nl0]), (nl6, [nl6, nl2, nl0]), (nl8, [nl8, nl0])]) (L := [[0], [1, 0], [2, 0], [3, 2, 0], [4, 0]]) (n := 4) (by decide +kernel) rfl x0020 (And.intro (And.intro (And.intro (And.intro trivial kl1) kl2) kl6) kl8) kl0
theorem tc0020 : TreeP nc0 [0, 0, 2, 0] := tree_of (nl := [nc0, nc1, nc2, nc6, nc8]) (lad := [(nc0, [nc0]), (nc1, [nc1, nc0]), (nc2, [nc2, nc0]), (nc6, [nc6, nc2, nc0]), (nc8, [nc8, nc0])]) (L := [[0], [1, 0], [2, 0], [3, 2, 0], [4, 0]]) (n := 4) (by decide +kernel) rfl x0020 (And.intro (And.intro (And.intro (And.intro trivial kc1) kc2) kc6) kc8) kc0
theorem x0021 : ixB 4 [[0], [1, 0], [2, 0], [3, 2, 0], [4, 1, 0]] [0, 0, 2, 1] = true := by decide +kernel
theorem tl0021 : TreeP nl0 [0, 0, 2, 1] := tree_of (nl := [nl0, nl1, nl2, nl6, nl9]) (lad := [(nl0, [nl0]), (nl1, [nl1, nl0]), (nl2, [nl2, nl0]), (nl6, [nl6, nl2, nl0]), (nl9, [nl9, nl1, nl0])]) (L := [[0], [1, 0], [2, 0], [3, 2, 0], [4, 1, 0]]) (n := 4) (by decide +kernel) rfl x0021 (And.intro (And.intro (And.intro (And.intro trivial kl1) kl2) kl6) kl9) kl0
theorem tc0021 : TreeP nc0 [0, 0, 2, 1] := tree_of (nl := [nc0, nc1, nc2, nc6, nc9]) (lad := [(nc0, [nc0]), (nc1, [nc1, nc0]), (nc2, [nc2, nc0]), (nc6, [nc6, nc2, nc0]), (nc9, [nc9, nc1, nc0])]) (L := [[0], [1, 0], [2, 0], [3, 2, 0], [4, 1, 0]]) (n := 4) (by decide +kernel) rfl x0021 (And.intro (And.intro (And.intro (And.intro trivial kc1) kc2) kc6) kc9) kc0
theorem x0022 : ixB 4 [[0], [1, 0], [2, 0], [3, 2, 0], [4, 2, 0]] [0, 0, 2, 2] = true := by decide +kernel
theorem tl0022 : TreeP nl0 [0, 0, 2, 2] := tree_of (nl := [nl0, nl1, nl2, nl6, nl10]) (lad := [(nl0, [nl0]), (nl1, [nl1, nl0]), (nl2, [nl2, nl0]), (nl6, [nl6, nl2, nl0]), (nl10, [nl10, nl2, nl0])]) (L := [[0], [1, 0], [2, 0], [3, 2, 0], [4, 2, 0]]) (n := 4) (by decide +kernel) rfl x0022 (And.intro (And.intro (And.intro (And.intro trivial kl1) kl2) kl6) kl10) kl0
theorem tc0022 : TreeP nc0 [0, 0, 2, 2] := tree_of (nl := [nc0, nc1, nc2, nc6, nc10]) (lad := [(nc0, [nc0]), (nc1, [nc1, nc0]), (nc2, [nc2, nc0]), (nc6, [nc6, nc2, nc0]), (nc10, [nc10, nc2, nc0])]) (L := [[0], [1, 0], [2, 0], [3, 2, 0], [4, 2, 0]]) (n := 4) (by decide +kernel) rfl x0022 (And.intro (And.intro (And.intro (And.intro trivial kc1) kc2) kc6) kc10) kc0
theorem x0023 : ixB 4 [[0], [1, 0], [2, 0], [3, 2, 0], [4, 3, 2, 0]] [0, 0, 2, 3] = true := by decide +kernel
theorem tl0023 : TreeP nl0 [0, 0, 2, 3] := tree_of (nl := [nl0, nl1, nl2, nl6, nl14]) (lad := [(nl0, [nl0]), (nl1, [nl1, nl0]), (nl2, [nl2, nl0]), (nl6, [nl6, nl2, nl0]), (nl14, [nl14, nl6, nl2, nl0])]) (L := [[0], [1, 0], [2, 0], [3, 2, 0], [4, 3, 2, 0]]) (n := 4) (by decide +kernel) rfl x0023 (And.intro (And.intro (And.intro (And.intro trivial kl1) kl2) kl6) kl14) kl0
theorem tc0023 : TreeP nc0 [0, 0, 2, 3] := tree_of (nl := [nc0, nc1, nc2, nc6, nc14]) (lad := [(nc0, [nc0]), (nc1, [nc1, nc0]), (nc2, [nc2, nc0]), (nc6, [nc6, nc2, nc0]), (nc14, [nc14, nc6, nc2, nc0])]) (L := [[0], [1, 0], [2, 0], [3, 2, 0], [4, 3, 2, 0]]) (n := 4) (by decide +kernel) rfl x0023 (And.intro (And.intro (And.intro (And.intro trivial kc1) kc2) kc6) kc14) kc0
theorem x0100 : ixB 4 [[0], [1, 0], [2, 1, 0], [3, 0], [4, 0]] [0, 1, 0, 0] = true := by decide +kernel
theorem tl0100 : TreeP nl0 [0, 1, 0, 0] := tree_of (nl := [nl0, nl1, nl3, nl4, nl8]) (lad := [(nl0, [nl0]), (nl1, [nl1, nl0]), (nl3, [nl3, nl1, nl0]), (nl4, [nl4, nl0]), (nl8, [nl8, nl0])]) (L := [[0], [1, 0], [2, 1, 0], [3, 0], [4, 0]]) (n := 4) (by decide +kernel) rfl x0100 (And.intro (And.intro (And.intro (And.intro trivial kl1) kl3) kl4) kl8) kl0
theorem tc0100 : TreeP nc0 [0, 1, 0, 0] := tree_of (nl := [nc0, nc1, nc3, nc4, nc8]) (lad := [(nc0, [nc0]), (nc1, [nc1, nc0]), (nc3, [nc3, nc1, nc0]), (nc4, [nc4, nc0]), (nc8, [nc8, nc0])]) (L := [[0], [1, 0], [2, 1, 0], [3, 0], [4, 0]]) (n := 4) (by decide +kernel) rfl x0100 (And.intro (And.intro (And.intro (And.intro trivial kc1) kc3) kc4) kc8) kc0
theorem x0101 : ixB 4 [[0], [1, 0], [2, 1, 0], [3, 0], [4, 1, 0]] [0, 1, 0, 1] = true := by decide +kernel
theorem tl0101 : TreeP nl0 [0, 1, 0, 1] := tree_of (nl := [nl0, nl1, nl3, nl4, nl9]) (lad := [(nl0, [nl0]), (nl1, [nl1, nl0]), (nl3, [nl3, nl1, nl0]), (nl4, [nl4, nl0]), (nl9, [nl9, nl1, nl0])]) (L := [[0], [1, 0], [2, 1, 0], [3, 0], [4, 1, 0]]) (n := 4) (by decide +kernel) rfl x0101 (And.intro (And.intro (And.intro (And.intro trivial kl1) kl3) kl4) kl9) kl0
theorem tc0101 : TreeP nc0 [0, 1, 0, 1] := tree_of (nl := [nc0, nc1, nc3, nc4, nc9]) (lad := [(nc0, [nc0]), (nc1, [nc1, nc0]), (nc3, [nc3, nc1, nc0]), (nc4, [nc4, nc0]), (nc9, [nc9, nc1, nc0])]) (L := [[0], [1, 0], [2, 1, 0], [3, 0], [4, 1, 0]]) (n := 4) (by decide +kernel) rfl x0101 (And.intro (And.intro (And.intro (And.intro trivial kc1) kc3) kc4) kc9) kc0
theorem x0102 : ixB 4 [[0], [1, 0], [2, 1, 0], [3, 0], [4, 2, 1, 0]] [0, 1, 0, 2] = true := by decide +kernel
theorem tl0102 : TreeP nl0 [0, 1, 0, 2] := tree_of (nl := [nl0, nl1, nl3, nl4, nl11]) (lad := [(nl0, [nl0]), (nl1, [nl1, nl0]), (nl3, [nl3, nl1, nl0]), (nl4, [nl4, nl0]), (nl11, [nl11, nl3, nl1, nl0])]) (L := [[0], [1, 0], [2, 1, 0], [3, 0], [4, 2, 1, 0]]) (n := 4) (by decide +kernel) rfl x0102 (And.intro (And.intro (And.intro (And.intro trivial kl1) kl3) kl4) kl11) kl0
theorem tc0102 : TreeP nc0 [0, 1, 0, 2] := tree_of (nl := [nc0, nc1, nc3, nc4, nc11]) (lad := [(nc0, [nc0]), (nc1, [nc1, nc0]), (nc3, [nc3, nc1, nc0]), (nc4, [nc4, nc0]), (nc11, [nc11, nc3, nc1, nc0])]) (L := [[0], [1, 0], [2, 1, 0], [3, 0], [4, 2, 1, 0]]) (n := 4) (by decide +kernel) rfl x0102 (And.intro (And.intro (And.intro (And.intro trivial kc1) kc3) kc4) kc11) kc0
theorem x0103 : ixB 4 [[0], [1, 0], [2, 1, 0], [3, 0], [4, 3, 0]] [0, 1, 0, 3] = true := by decide +kernel
theorem tl0103 : TreeP nl0 [0, 1, 0, 3] := tree_of (nl := [nl0, nl1, nl3, nl4, nl12]) (lad := [(nl0, [nl0]), (nl1, [nl1, nl0]), (nl3, [nl3, nl1, nl0]), (nl4, [nl4, nl0]), (nl12, [nl12, nl4, nl0])]) (L := [[0], [1, 0], [2, 1, 0], [3, 0], [4, 3, 0]]) (n := 4) (by decide +kernel) rfl x0103 (And.intro (And.intro (And.intro (And.intro trivial kl1) kl3) kl4) kl12) kl0
theorem tc0103 : TreeP nc0 [0, 1, 0, 3] := tree_of (nl := [nc0, nc1, nc3, nc4, nc12]) (lad := [(nc0, [nc0]), (nc1, [nc1, nc0]), (nc3, [nc3, nc1, nc0]), (nc4, [nc4, nc0]), (nc12, [nc12, nc4, nc0])]) (L := [[0], [1, 0], [2, 1, 0], [3, 0], [4, 3, 0]]) (n := 4) (by decide +kernel) rfl x0103 (And.intro (And.intro (And.intro (And.intro trivial kc1) kc3) kc4) kc12) kc0
theorem x0110 : ixB 4 [[0], [1, 0], [2, 1, 0], [3, 1, 0], [4, 0]] [0, 1, 1, 0] = true := by decide +kernel
theorem tl0110 : TreeP nl0 [0, 1, 1, 0] := tree_of (nl := [nl0, nl1, nl3, nl5, nl8]) (lad := [(nl0, [nl0]), (nl1, [nl1, nl0]), (nl3, [nl3, nl1, nl0]), (nl5, [nl5, nl1, nl0]), (nl8, [nl8, nl0])]) (L := [[0], [1, 0], [2, 1, 0], [3, 1, 0], [4, 0]]) (n := 4) (by decide +kernel) rfl x0110 (And.intro (And.intro (And.intro (And.intro trivial kl1) kl3) kl5) kl8) kl0
theorem tc0110 : TreeP nc0 [0, 1, 1, 0] := tree_of (nl := [nc0, nc1, nc3, nc5, nc8]) (lad := [(nc0, [nc0]), (nc1, [nc1, nc0]), (nc3, [nc3, nc1, nc0]), (nc5, [nc5, nc1, nc0]), (nc8, [nc8, nc0])]) (L := [[0], [1, 0], [2, 1, 0], [3, 1, 0], [4, 0]]) (n := 4) (by decide +kernel) rfl x0110 (And.intro (And.intro (And.intro (And.intro trivial kc1) kc3) kc5) kc8) kc0
theorem x0111 : ixB 4 [[0], [1, 0], [2, 1, 0], [3, 1, 0], [4, 1, 0]] [0, 1, 1, 1] = true := by decide +kernel
theorem tl0111 : TreeP nl0 [0, 1, 1, 1] := tree_of (nl := [nl0, nl1, nl3, nl5, nl9]) (lad := [(nl0, [nl0]), (nl1, [nl1, nl0]), (nl3, [nl3, nl1, nl0]), (nl5, [nl5, nl1, nl0]), (nl9, [nl9, nl1, nl0])]) (L := [[0], [1, 0], [2, 1, 0], [3, 1, 0], [4, 1, 0]]) (n := 4) (by decide +kernel) rfl x0111 (And.intro (And.intro (And.intro (And.intro trivial kl1) kl3) kl5) kl9) kl0
theorem tc0111 : TreeP nc0 [0, 1, 1, 1] := tree_of (nl := [nc0, nc1, nc3, nc5, nc9]) (lad := [(nc0, [nc0]), (nc1, [nc1, nc0]), (nc3, [nc3, nc1, nc0]), (nc5, [nc5, nc1, nc0]), (nc9, [nc9, nc1, nc0])]) (L := [[0], [1, 0], [2, 1, 0], [3, 1, 0], [4, 1, 0]]) (n := 4) (by decide +kernel) rfl x0111 (And.intro (And.intro (And.intro (And.intro trivial kc1) kc3) kc5) kc9) kc0
theorem x0112 : ixB 4 [[0], [1, 0], [2, 1, 0], [3, 1, 0], [4, 2, 1, 0]] [0, 1, 1, 2] = true := by decide +kernel
theorem tl0112 : TreeP nl0 [0, 1, 1, 2] := tree_of (nl := [nl0, nl1, nl3, nl5, nl11]) (lad := [(nl0, [nl0]), (nl1, [nl1, nl0]), (nl3, [nl3, nl1, nl0]), (nl5, [nl5, nl1, nl0]), (nl11, [nl11, nl3, nl1, nl0])]) (L := [[0], [1, 0], [2, 1, 0], [3, 1, 0], [4, 2, 1, 0]]) (n := 4) (by decide +kernel) rfl x0112 (And.intro (And.intro (And.intro (And.intro trivial kl1) kl3) kl5) kl11) kl0
theorem tc0112 : TreeP nc0 [0, 1, 1, 2] := tree_of (nl := [nc0, nc1, nc3, nc5, nc11]) (lad := [(nc0, [nc0]), (nc1, [nc1, nc0]), (nc3, [nc3, nc1, nc0]), (nc5, [nc5, nc1, nc0]), (nc11, [nc11, nc3, nc1, nc0])]) (L := [[0], [1, 0], [2, 1, 0], [3, 1, 0], [4, 2, 1, 0]]) (n := 4) (by decide +kernel) rfl x0112 (And.intro (And.intro (And.intro (And.intro trivial kc1) kc3) kc5) kc11) kc0
theorem x0113 : ixB 4 [[0], [1, 0], [2, 1, 0], [3, 1, 0], [4, 3, 1, 0]] [0, 1, 1, 3] = true := by decide +kernel
theorem tl0113 : TreeP nl0 [0, 1, 1, 3] := tree_of (nl := [nl0, nl1, nl3, nl5, nl13]) (lad := [(nl0, [nl0]), (nl1, [nl1, nl0]), (nl3, [nl3, nl1, nl0]), (nl5, [nl5, nl1, nl0]), (nl13, [nl13, nl5, nl1, nl0])]) (L := [[0], [1, 0], [2, 1, 0], [3, 1, 0], [4, 3, 1, 0]]) (n := 4) (by decide +kernel) rfl x0113 (And.intro (And.intro (And.intro (And.intro trivial kl1) kl3) kl5) kl13) kl0
theorem tc0113 : TreeP nc0 [0, 1, 1, 3] := tree_of (nl := [nc0, nc1, nc3, nc5, nc13]) (lad := [(nc0, [nc0]), (nc1, [nc1, nc0]), (nc3, [nc3, nc1, nc0]), (nc5, [nc5, nc1, nc0]), (nc13, [nc13, nc5, nc1, nc0])]) (L := [[0], [1, 0], [2, 1, 0], [3, 1, 0], [4, 3, 1, 0]]) (n := 4) (by decide +kernel) rfl x0113 (And.intro (And.intro (And.intro (And.intro trivial kc1) kc3) kc5) kc13) kc0
theorem x0120 : ixB 4 [[0], [1, 0], [2, 1, 0], [3, 2, 1, 0], [4, 0]] [0, 1, 2, 0] = true := by decide +kernel
theorem tl0120 : TreeP nl0 [0, 1, 2, 0] := tree_of (nl := [nl0, nl1, nl3, nl7, nl8]) (lad := [(nl0, [nl0]), (nl1, [nl1, nl0]), (nl3, [nl3, nl1, nl0]), (nl7, [nl7, nl3, nl1, nl0]), (nl8, [nl8, nl0])]) (L := [[0], [1, 0], [2, 1, 0], [3, 2, 1, 0], [4, 0]]) (n := 4) (by decide +kernel) rfl x0120 (And.intro (And.intro (And.intro (And.intro trivial kl1) kl3) kl7) kl8) kl0
theorem tc0120 : TreeP nc0 [0, 1, 2, 0] := tree_of (nl := [nc0, nc1, nc3, nc7, nc8]) (lad := [(nc0, [nc0]), (nc1, [nc1, nc0]), (nc3, [nc3, nc1, nc0]), (nc7, [nc7, nc3, nc1, nc0]), (nc8, [nc8, nc0])]) (L := [[0], [1, 0], [2, 1, 0], [3, 2, 1, 0], [4, 0]]) (n := 4) (by decide +kernel) rfl x0120 (And.intro (And.intro (And.intro (And.intro trivial kc1) kc3) kc7) kc8) kc0
theorem x0121 : ixB 4 [[0], [1, 0], [2, 1, 0], [3, 2, 1, 0], [4, 1, 0]] [0, 1, 2, 1] = true := by decide +kernel
theorem tl0121 : TreeP nl0 [0, 1, 2, 1] := tree_of (nl := [nl0, nl1, nl3, nl7, nl9]) (lad := [(nl0, [nl0]), (nl1, [nl1, nl0]), (nl3, [nl3, nl1, nl0]), (nl7, [nl7, nl3, nl1, nl0]), (nl9, [nl9, nl1, nl0])]) (L := [[0], [1, 0], [2, 1, 0], [3, 2, 1, 0], [4, 1, 0]]) (n := 4) (by decide +kernel) rfl x0121 (And.intro (And.intro (And.intro (And.intro trivial kl1) kl3) kl7) kl9) kl0
theorem tc0121 : TreeP nc0 [0, 1, 2, 1] := tree_of (nl := [nc0, nc1, nc3, nc7, nc9]) (lad := [(nc0, [nc0]), (nc1, [nc1, nc0]), (nc3, [nc3, nc1, nc0]), (nc7, [nc7, nc3, nc1, nc0]), (nc9, [nc9, nc1, nc0])]) (L := [[0], [1, 0], [2, 1, 0], [3, 2, 1, 0], [4, 1, 0]]) (n := 4) (by decide +kernel) rfl x0121 (And.intro (And.intro (And.intro (And.intro trivial kc1) kc3) kc7) kc9) kc0
theorem x0122 : ixB 4 [[0], [1, 0], [2, 1, 0], [3, 2, 1, 0], [4, 2, 1, 0]] [0, 1, 2, 2] = true := by decide +kernel
theorem tl0122 : TreeP nl0 [0, 1, 2, 2] := tree_of (nl := [nl0, nl1, nl3, nl7, nl11]) (lad := [(nl0, [nl0]), (nl1, [nl1, nl0]), (nl3, [nl3, nl1, nl0]), (nl7, [nl7, nl3, nl1, nl0]), (nl11, [nl11, nl3, nl1, nl0])]) (L := [[0], [1, 0], [2, 1, 0], [3, 2, 1, 0], [4, 2, 1, 0]]) (n := 4) (by decide +kernel) rfl x0122 (And.intro (And.intro (And.intro (And.intro trivial kl1) kl3) kl7) kl11) kl0
theorem tc0122 : TreeP nc0 [0, 1, 2, 2] := tree_of (nl := [nc0, nc1, nc3, nc7, nc11]) (lad := [(nc0, [nc0]), (nc1, [nc1, nc0]), (nc3, [nc3, nc1, nc0]), (nc7, [nc7, nc3, nc1, nc0]), (nc11, [nc11, nc3, nc1, nc0])]) (L := [[0], [1, 0], [2, 1, 0], [3, 2, 1, 0], [4, 2, 1, 0]]) (n := 4) (by decide +kernel) rfl x0122 (And.intro (And.intro (And.intro (And.intro trivial kc1) kc3) kc7) kc11) kc0
theorem x0123 : ixB 4 [[0], [1, 0], [2, 1, 0], [3, 2, 1, 0], [4, 3, 2, 1, 0]] [0, 1, 2, 3] = true := by decide +kernel
theorem tl0123 : TreeP nl0 [0, 1, 2, 3] := tree_of (nl := [nl0, nl1, nl3, nl7, nl15]) (lad := [(nl0, [nl0]), (nl1, [nl1, nl0]), (nl3, [nl3, nl1, nl0]), (nl7, [nl7, nl3, nl1, nl0]), (nl15, [nl15, nl7, nl3, nl1, nl0])]) (L := [[0], [1, 0], [2, 1, 0], [3, 2, 1, 0], [4, 3, 2, 1, 0]]) (n := 4) (by decide +kernel) rfl x0123 (And.intro (And.intro (And.intro (And.intro trivial kl1) kl3) kl7) kl15) kl0
theorem tc0123 : TreeP nc0 [0, 1, 2, 3] := tree_of (nl := [nc0, nc1, nc3, nc7, nc15]) (lad := [(nc0, [nc0]), (nc1, [nc1, nc0]), (nc3, [nc3, nc1, nc0]), (nc7, [nc7, nc3, nc1, nc0]), (nc15, [nc15, nc7, nc3, nc1, nc0])]) (L := [[0], [1, 0], [2, 1, 0], [3, 2, 1, 0], [4, 3, 2, 1, 0]]) (n := 4) (by decide +kernel) rfl x0123 (And.intro (And.intro (And.intro (And.intro trivial kc1) kc3) kc7) kc15) kc0
theorem trees3 : ∀ js ∈ js3, TreeP nl0 js ∧ TreeP nc0 js := by
  rw [show js3 = [[0, 0, 0], [0, 0, 1], [0, 0, 2], [0, 1, 0], [0, 1, 1], [0, 1, 2]] by decide +kernel]
  exact (fa_cons ⟨tl000, tc000⟩ (fa_cons ⟨tl001, tc001⟩ (fa_cons ⟨tl002, tc002⟩ (fa_cons ⟨tl010, tc010⟩ (fa_cons ⟨tl011, tc011⟩ (fa_cons ⟨tl012, tc012⟩ fa_nil))))))
theorem trees4 : ∀ js ∈ js4, TreeP nl0 js ∧ TreeP nc0 js := by
  rw [show js4 = [[0, 0, 0, 0], [0, 0, 0, 1], [0, 0, 0, 2], [0, 0, 0, 3], [0, 0, 1, 0], [0, 0, 1, 1], [0, 0, 1, 2], [0, 0, 1, 3], [0, 0, 2, 0], [0, 0, 2, 1], [0, 0, 2, 2], [0, 0, 2, 3], [0, 1, 0, 0], [0, 1, 0, 1], [0, 1, 0, 2], [0, 1, 0, 3], [0, 1, 1, 0], [0, 1, 1, 1], [0, 1, 1, 2], [0, 1, 1, 3], [0, 1, 2, 0], [0, 1, 2, 1], [0, 1, 2, 2], [0, 1, 2, 3]] by decide +kernel]
  exact (fa_cons ⟨tl0000, tc0000⟩ (fa_cons ⟨tl0001, tc0001⟩ (fa_cons ⟨tl0002, tc0002⟩ (fa_cons ⟨tl0003, tc0003⟩ (fa_cons ⟨tl0010, tc0010⟩ (fa_cons ⟨tl0011, tc0011⟩ (fa_cons ⟨tl0012, tc0012⟩ (fa_cons ⟨tl0013, tc0013⟩ (fa_cons ⟨tl0020, tc0020⟩ (fa_cons ⟨tl0021, tc0021⟩ (fa_cons ⟨tl0022, tc0022⟩ (fa_cons ⟨tl0023, tc0023⟩ (fa_cons ⟨tl0100, tc0100⟩ (fa_cons ⟨tl0101, tc0101⟩ (fa_cons ⟨tl0102, tc0102⟩ (fa_cons ⟨tl0103, tc0103⟩ (fa_cons ⟨tl0110, tc0110⟩ (fa_cons ⟨tl0111, tc0111⟩ (fa_cons ⟨tl0112, tc0112⟩ (fa_cons ⟨tl0113, tc0113⟩ (fa_cons ⟨tl0120, tc0120⟩ (fa_cons ⟨tl0121, tc0121⟩ (fa_cons ⟨tl0122, tc0122⟩ (fa_cons ⟨tl0123, tc0123⟩ fa_nil))))))))))))))))))))))))
end Mine

end
section
open PySem PySem.W PyProof.Rows PySem.Calls PySem.Spec PySem.Builtin PySem.Builtin.Str
set_option Elab.async false
set_option maxRecDepth 100000
set_option maxHeartbeats 4000000
set_option linter.unusedVariables false
namespace Mine
/-- names and ladders know nothing of the lengths -/
theorem plRun_fst : ∀ (jl jl' : List (Nat × Int)) (k : Nat) (s s' : PL), jl.map (·.1) = jl'.map (·.1) → s.1 = s'.1 → s.2.1 = s'.2.1 → (plRun k jl s).1 = (plRun k jl' s').1 ∧ (plRun k jl s).2.1 = (plRun k jl' s').2.1
  | [], [], k, s, s', _, h1, h2 => ⟨h1, h2⟩
  | [], _ :: _, _, _, _, h, _, _ => by cases h
  | _ :: _, [], _, _, _, h, _, _ => by cases h
  | p :: ps, q :: qs, k, s, s', h, h1, h2 => by
    simp only [List.map_cons, List.cons.injEq] at h
    refine plRun_fst ps qs (k + 1) (plStep k p s) (plStep k q s') h.2 ?_ ?_
    · unfold plStep; rw [h1, h.1]
    · unfold plStep; simp only; rw [h1, h2, h.1]
/-- every new name has a length -/
theorem plRun_len (P : Int → Prop) : ∀ (jl : List (Nat × Int)) (k : Nat) (s : PL), (∀ p ∈ jl, P p.2) → (∀ n l, look s.2.2 n = some l → P l) → (∀ n ∈ s.1.tail, ∃ l, look s.2.2 n = some l) → s.1 ≠ [] →
    (∀ n l, look (plRun k jl s).2.2 n = some l → P l) ∧ ∀ n ∈ (plRun k jl s).1.tail, ∃ l, look (plRun k jl s).2.2 n = some l
  | [], k, s, _, h2, h3, _ => ⟨h2, h3⟩
  | p :: ps, k, s, h1, h2, h3, h4 => by
    refine plRun_len P ps (k + 1) (plStep k p s) (fun q hq => h1 q (List.mem_cons_of_mem _ hq)) ?_ ?_ (by unfold plStep; simp)
    · intro n l e
      change look (putL _ _ _) n = some l at e
      rw [look_putL] at e
      split at e
      · cases e; exact h1 p (List.mem_cons_self ..)
      · exact h2 n l e
    · intro n hn
      show ∃ l, look (putL _ _ _) n = some l
      rw [look_putL]
      split
      · exact ⟨_, rfl⟩
      · rename_i hne
        change n ∈ (s.1 ++ [_]).tail at hn
        rw [List.tail_append_of_ne_nil h4] at hn
        rcases List.mem_append.mp hn with h | h
        · exact h3 n h
        · exact absurd (List.mem_singleton.mp h) hne
theorem jlOf_fst (hosts : List Int) : ∀ (i j : Nat), ((jlOf hosts).map (·.1))[i]? = some j → j ≤ i := by
  intro i j e
  simp only [jlOf, List.getElem?_map, List.getElem?_mapIdx] at e
  cases h : hosts[i]? with
  | none => rw [h] at e; cases e
  | some z =>
    rw [h] at e
    simp only [Option.map_some, Option.some.injEq] at e
    have := Int.fmod_lt_of_pos z (show (0 : Int) < ((i + 1 : Nat) : Int) by omega)
    have := Int.fmod_nonneg_of_pos z (show (0 : Int) < ((i + 1 : Nat) : Int) by omega)
    omega
theorem js3_mem {l : List Nat} (h : l.length = 3) (hj : ∀ (i j : Nat), l[i]? = some j → j ≤ i) : l ∈ js3 := by
  match l, h with
  | [a, b, c], _ =>
    have ha := hj 0 a rfl
    have hb := hj 1 b rfl
    have hc := hj 2 c rfl
    have : a = 0 := by omega
    subst this
    have hb' : b = 0 ∨ b = 1 := by omega
    have hc' : c = 0 ∨ c = 1 ∨ c = 2 := by omega
    rcases hb' with rfl | rfl <;> rcases hc' with rfl | rfl | rfl <;> decide
theorem js4_mem {l : List Nat} (h : l.length = 4) (hj : ∀ (i j : Nat), l[i]? = some j → j ≤ i) : l ∈ js4 := by
  match l, h with
  | [a, b, c, d], _ =>
    have h3 : [a, b, c] ∈ js3 := js3_mem rfl fun i j e => hj i j (by
      match i, e with
      | 0, e => exact e
      | 1, e => exact e
      | 2, e => exact e
      | i + 3, e => cases e)
    have hd := hj 3 d rfl
    refine List.mem_flatMap.mpr ⟨_, h3, List.mem_map.mpr ⟨d, ?_, rfl⟩⟩
    have : d = 0 ∨ d = 1 ∨ d = 2 ∨ d = 3 := by omega
    rcases this with rfl | rfl | rfl | rfl <;> decide
end Mine

end
section
open PySem PySem.W PyProof.Rows PySem.Calls PySem.Spec PySem.Builtin PySem.Builtin.Str
set_option Elab.async false
set_option maxRecDepth 100000
set_option maxHeartbeats 4000000
set_option linter.unusedVariables false
namespace Mine
def sumf {α : Type} (l : List α) (f : α → Int) : Int := (l.map f).sum
theorem sumf_nil {α : Type} (f : α → Int) : sumf [] f = 0 := rfl
theorem sumf_cons {α : Type} (a : α) (l : List α) (f : α → Int) : sumf (a :: l) f = f a + sumf l f := by simp [sumf]
theorem sumf_congr {α : Type} : ∀ {l : List α} {f g : α → Int}, (∀ a ∈ l, f a = g a) → sumf l f = sumf l g
  | [], _, _, _ => rfl
  | a :: l, f, g, h => by rw [sumf_cons, sumf_cons, h a (List.mem_cons_self ..), sumf_congr fun b hb => h b (List.mem_cons_of_mem _ hb)]
theorem sumf_add {α : Type} (f g : α → Int) : ∀ l : List α, sumf l (fun a => f a + g a) = sumf l f + sumf l g
  | [] => rfl
  | a :: l => by rw [sumf_cons, sumf_cons, sumf_cons, sumf_add f g l]; omega
theorem sumf_mul {α : Type} (c : Int) (f : α → Int) : ∀ l : List α, sumf l (fun a => c * f a) = c * sumf l f
  | [] => by simp [sumf]
  | a :: l => by rw [sumf_cons, sumf_cons, sumf_mul c f l, Int.mul_add]
theorem sumf_zero {α : Type} : ∀ {l : List α} {f : α → Int}, (∀ a ∈ l, f a = 0) → sumf l f = 0
  | [], _, _ => rfl
  | a :: l, f, h => by rw [sumf_cons, h a (List.mem_cons_self ..), sumf_zero fun b hb => h b (List.mem_cons_of_mem _ hb)]; rfl
theorem sumf_swap {α β : Type} (f : α → β → Int) : ∀ (l : List α) (r : List β), sumf l (fun a => sumf r (f a)) = sumf r (fun b => sumf l (fun a => f a b))
  | [], r => by rw [sumf_nil]; exact (sumf_zero fun b _ => rfl).symm
  | a :: l, r => by rw [sumf_cons, sumf_swap f l r, ← sumf_add]; exact sumf_congr fun b _ => (sumf_cons a l (fun a => f a b)).symm
theorem sumf_filter {α : Type} (p : α → Bool) (f : α → Int) : ∀ l : List α, sumf (l.filter p) f = sumf l (fun a => if p a = true then f a else 0)
  | [] => rfl
  | a :: l => by
    rw [List.filter_cons, sumf_cons, ← sumf_filter p f l]
    cases h : p a <;> simp [sumf]
theorem sumf_perm {α : Type} {l r : List α} (h : l.Perm r) (f : α → Int) : sumf l f = sumf r f := by
  unfold sumf
  induction h with
  | nil => rfl
  | cons a _ ih => simp only [List.map_cons, List.sum_cons, ih]
  | swap a b l => simp only [List.map_cons, List.sum_cons]; omega
  | trans _ _ i j => exact i.trans j
theorem sumf_le {α : Type} : ∀ {l : List α} {f g : α → Int}, (∀ a ∈ l, f a ≤ g a) → sumf l f ≤ sumf l g
  | [], _, _, _ => Int.le_refl _
  | a :: l, f, g, h => by rw [sumf_cons, sumf_cons]; have := h a (List.mem_cons_self ..); have := sumf_le fun b hb => h b (List.mem_cons_of_mem _ hb); omega
theorem sumf_neg_ex {α : Type} : ∀ {l : List α} {f : α → Int}, sumf l f < 0 → ∃ a ∈ l, f a < 0
  | [], f, h => absurd h (by simp [sumf])
  | a :: l, f, h => by
    by_cases ha : f a < 0
    · exact ⟨a, List.mem_cons_self .., ha⟩
    · rw [sumf_cons] at h
      obtain ⟨b, hb, hf⟩ := sumf_neg_ex (l := l) (f := f) (by omega)
      exact ⟨b, List.mem_cons_of_mem _ hb, hf⟩

/-- weights of the ballots whose place has x above it -/
def insW (lad : List (Str × List Str)) (B : List (Str × Int)) (x : Str) : Int := sumf B fun p => if inL lad p.1 x = true then p.2 else 0
def farW (lad : List (Str × List Str)) (B : List (Str × Int)) (a x : Str) : Int := sumf B fun p => if (inL lad p.1 x != inL lad a x) = true then p.2 else 0
def allW (B : List (Str × Int)) : Int := sumf B fun p => p.2
/-- the whole way of all ballots to a -/
def totD (lad : List (Str × List Str)) (ns : List Str) (len : List (Str × Int)) (B : List (Str × Int)) (a : Str) : Int := sumf ns fun x => gl len x * farW lad B a x

theorem farW_eq (lad B a x) : farW lad B a x = if inL lad a x = true then allW B - insW lad B x else insW lad B x := by
  unfold farW allW insW
  cases h : inL lad a x with
  | true =>
    simp only [if_true]
    have : sumf B (fun p => p.2) = sumf B (fun p => if inL lad p.1 x = true then p.2 else 0) + sumf B (fun p => if (inL lad p.1 x != true) = true then p.2 else 0) := by
      rw [← sumf_add]
      exact sumf_congr fun p _ => by cases inL lad p.1 x <;> simp
    omega
  | false =>
    rw [if_neg (by decide)]
    exact sumf_congr fun p _ => by cases inL lad p.1 x <;> rfl

section
variable {n0 : Str} {ns : List Str} {lad : List (Str × List Str)} {len : List (Str × Int)} {B : List (Str × Int)}

/-- law_sum is the whole way -/
theorem sums_tot (T : TreeOk n0 ns lad) (hB : ∀ p ∈ B, p.1 ∈ n0 :: ns) {a : Str} (ha : a ∈ n0 :: ns) : (sumWays (B.map fun p => linksLL lad a p.1) B len).sum = totD lad ns len B a := by
  have e1 : (sumWays (B.map fun p => linksLL lad a p.1) B len).sum = sumf B (fun p => sumf (linksLL lad a p.1) fun l => p.2 * gl len l) := by
    unfold sumWays sumf
    rw [List.zipWith_map_left]
    congr 1
    rw [show List.zipWith (fun p q => (sumK len (linksLL lad a p.1) q).sum) B B = B.map (fun p => (sumK len (linksLL lad a p.1) p).sum) by
      clear hB
      induction B with
      | nil => rfl
      | cons p B ih => simp only [List.zipWith_cons_cons, List.map_cons, ih]]
    rfl
  rw [e1]
  have e2 : sumf B (fun p => sumf (linksLL lad a p.1) fun l => p.2 * gl len l) = sumf B (fun p => sumf ns fun x => if (inL lad a x != inL lad p.1 x) = true then p.2 * gl len x else 0) :=
    sumf_congr fun p hp => by rw [sumf_perm (T.perm a ha p.1 (hB p hp)), sumf_filter]
  rw [e2, sumf_swap]
  refine sumf_congr fun x _ => ?_
  unfold farW
  rw [← sumf_mul]
  exact sumf_congr fun p _ => by
    cases inL lad a x <;> cases inL lad p.1 x <;> simp [Int.mul_comm]

/-- the step along one edge of the tree -/
theorem tot_step (T : TreeOk n0 ns lad) {n : Str} (hn : n ∈ ns) : totD lad ns len B n = totD lad ns len B (parS n) + gl len n * (allW B - 2 * insW lad B n) := by
  obtain ⟨h1, h2⟩ := T.step n hn
  have nd := (List.nodup_cons.mp T.nd).2
  have key : ∀ (r : List Str), r.Nodup → (∀ x ∈ r, x ∈ ns) → sumf r (fun x => gl len x * farW lad B n x) = sumf r (fun x => gl len x * farW lad B (parS n) x) + (if n ∈ r then gl len n * (allW B - 2 * insW lad B n) else 0) := by
    intro r
    induction r with
    | nil => intro _ _; simp [sumf]
    | cons x r ih =>
      intro nd hs
      obtain ⟨hx, hr⟩ := List.nodup_cons.mp nd
      rw [sumf_cons, sumf_cons, ih hr fun y hy => hs y (List.mem_cons_of_mem _ hy)]
      by_cases hxn : x = n
      · subst hxn
        rw [if_neg hx, if_pos (List.mem_cons_self ..), farW_eq, farW_eq, h2, h1 x hn]
        simp only [beq_self_eq_true, Bool.true_or, if_true]
        rw [if_neg (by decide)]
        rw [Int.mul_sub, Int.mul_sub, ← Int.mul_assoc, Int.mul_comm _ 2, Int.mul_assoc]
        omega
      · have hb : (x == n) = false := beq_eq_false_iff_ne.mpr hxn
        have e : farW lad B n x = farW lad B (parS n) x := by rw [farW_eq, farW_eq, h1 x (hs x (List.mem_cons_self ..)), hb, Bool.false_or]
        rw [e]
        have hm : (n ∈ x :: r) ↔ (n ∈ r) := ⟨fun h => (List.mem_cons.mp h).resolve_left fun e => hxn e.symm, fun h => List.mem_cons_of_mem _ h⟩
        simp only [hm]
        omega
  have := key ns nd fun _ h => h
  rw [if_pos hn] at this
  exact this
end
end Mine

end
section
open PySem PySem.W PyProof.Rows PySem.Calls PySem.Spec PySem.Builtin PySem.Builtin.Str
set_option Elab.async false
set_option maxRecDepth 100000
set_option maxHeartbeats 4000000
set_option linter.unusedVariables false
namespace Mine
theorem gl_visit (n : Int) (ins : List (Str × Int)) (w x : Str) : gl (visit n ins w) x = gl ins x + if x = w then n else 0 := by
  unfold gl visit
  rw [look_putL]
  by_cases h : x = w
  · subst h; simp
  · simp [h]
theorem gl_fold (n : Int) (x : Str) : ∀ (l : List Str) (ins : List (Str × Int)), l.Nodup → gl (l.foldl (visit n) ins) x = gl ins x + if x ∈ l then n else 0
  | [], ins, _ => by simp
  | w :: l, ins, nd => by
    obtain ⟨h1, h2⟩ := List.nodup_cons.mp nd
    rw [List.foldl_cons, gl_fold n x l _ h2, gl_visit]
    by_cases h : x = w
    · subst h; simp [h1]
    · simp [h]
theorem gl_book (x : Str) : ∀ (B : List (Str × Int)) (ins : List (Str × Int)), (∀ p ∈ B, (climbs p.1.length p.1).Nodup) → gl (bookL B ins) x = gl ins x + sumf B (fun p => if x ∈ climbs p.1.length p.1 then p.2 else 0)
  | [], ins, _ => by simp [bookL, sumf]
  | p :: B, ins, h => by
    show gl (bookL B _) x = _
    rw [gl_book x B _ fun q hq => h q (List.mem_cons_of_mem _ hq), gl_fold _ _ _ _ (h p (List.mem_cons_self ..)), sumf_cons]
    omega
theorem look_map {α : Type} (f : Str → α) : ∀ {l : List Str} {a : Str}, a ∈ l → look (l.map fun n => (n, f n)) a = some (f a)
  | n :: l, a, h => by
    rw [List.map_cons, look_cons]
    by_cases e : n = a
    · subst e; simp
    · rw [if_neg e]
      exact look_map f ((List.mem_cons.mp h).resolve_left fun q => e q.symm)

section
variable {n0 : Str} {ns : List Str} {lad : List (Str × List Str)} {len : List (Str × Int)} {B : List (Str × Int)}
theorem inL_climbs (T : TreeOk n0 ns lad) {a : Str} (ha : a ∈ n0 :: ns) (x : Str) : inL lad a x = decide (x ∈ climbs a.length a) := by
  unfold inL
  rw [(T.ladr a ha).1, Option.getD_some]
  by_cases h : x ∈ climbs a.length a
  · rw [decide_eq_true h]; exact List.any_eq_true.mpr ⟨x, h, by simp⟩
  · rw [decide_eq_false h]; exact List.any_eq_false.mpr fun y hy e => h (beq_iff_eq.mp e ▸ hy)
theorem ins_eq (T : TreeOk n0 ns lad) (hB : ∀ p ∈ B, p.1 ∈ n0 :: ns) (x : Str) : gl (bookL B []) x = insW lad B x := by
  rw [gl_book x B [] fun p hp => (T.ladr p.1 (hB p hp)).2.2]
  have : gl ([] : List (Str × Int)) x = 0 := rfl
  rw [this, Int.zero_add]
  refine sumf_congr fun p hp => ?_
  rw [inL_climbs T (hB p hp)]
  simp
theorem ins_root (T : TreeOk n0 ns lad) (hB : ∀ p ∈ B, p.1 ∈ n0 :: ns) : gl (bookL B []) n0 = allW B := by
  rw [ins_eq T hB]
  exact sumf_congr fun p hp => by rw [T.root.2 p.1 (hB p hp)]; rfl

theorem totals_eq (T : TreeOk n0 ns lad) (hB : ∀ p ∈ B, p.1 ∈ n0 :: ns) : totalsL n0 ns len (bookL B []) = (n0 :: ns).map fun a => (a, totD lad ns len B a) := by
  have base : sumV (farL len (bookL B []) ns) = totD lad ns len B n0 := by
    have : sumV (farL len (bookL B []) ns) = sumf ns fun n => gl len n * gl (bookL B []) n := by
      unfold sumV farL sumf; rw [List.map_map]; rfl
    rw [this]
    refine sumf_congr fun x hx => ?_
    rw [ins_eq T hB, farW_eq, T.root.1 x hx]
    rfl
  have key : ∀ (rest pre : List Str), ns = pre ++ rest → rest.foldl (totStep n0 len (bookL B [])) ((n0 :: pre).map fun a => (a, totD lad ns len B a)) = (n0 :: ns).map fun a => (a, totD lad ns len B a) := by
    intro rest
    induction rest with
    | nil => intro pre h; rw [List.append_nil] at h; rw [← h]; rfl
    | cons n rest ih =>
      intro pre h
      rw [List.foldl_cons]
      have hn : n ∈ ns := by rw [h]; simp
      have hi : pre.length < ns.length := by rw [h]; simp
      have hgd : ns.getD pre.length "" = n := by rw [List.getD_eq_getElem?_getD, h, List.getElem?_append_right (Nat.le_refl _)]; simp
      have hp := T.par pre.length hi
      rw [hgd] at hp
      have htk : (n0 :: ns).take (pre.length + 1) = n0 :: pre := by rw [List.take_succ_cons, h, List.take_left']; rfl
      rw [htk] at hp
      have hnot : n ∉ n0 :: pre := by
        have nd := T.nd
        rw [h] at nd
        intro hm
        rcases List.mem_cons.mp hm with e | e
        · exact (List.nodup_cons.mp nd).1 (by rw [← e]; simp)
        · have nd2 := (List.nodup_append.mp (List.nodup_cons.mp nd).2).2.2
          exact nd2 n e n (List.mem_cons_self ..) rfl
      have hstep : totStep n0 len (bookL B []) ((n0 :: pre).map fun a => (a, totD lad ns len B a)) n = (n0 :: (pre ++ [n])).map fun a => (a, totD lad ns len B a) := by
        unfold totStep
        rw [putL_new]
        · have e1 : gl ((n0 :: pre).map fun a => (a, totD lad ns len B a)) (parS n) = totD lad ns len B (parS n) := by
            unfold gl; rw [look_map _ hp]; rfl
          rw [e1, ins_root T hB, ins_eq T hB, ← tot_step T hn]
          simp
        · intro p hp e
          obtain ⟨a, ha, rfl⟩ := List.mem_map.mp hp
          exact hnot (e ▸ ha)
      rw [hstep]
      exact ih (pre ++ [n]) (by rw [h]; simp)
  unfold totalsL
  rw [base]
  exact key ns [] rfl

theorem lostS_eq (f g : Str → List Str) (B : List (Str × Int)) : lostS (B.map fun p => f p.1) (B.map fun p => g p.1) B B.length = sumf B fun p => voteK (f p.1) (g p.1) p.2 := by
  unfold lostS sumf
  congr 1
  apply List.ext_getElem
  · simp
  · intro i h1 h2
    simp only [List.length_map, List.length_range] at h1 h2
    simp [lostAt, List.getD, h1]
theorem voteK_mul (a c : List Str) (w : Int) : voteK a c w = w * voteK a c 1 := by
  unfold voteK
  split
  · simp
  · split <;> simp

theorem farW_le (hw : ∀ p ∈ B, 0 ≤ p.2) {a x e : Str} (h : ∀ p ∈ B, (inL lad p.1 x != inL lad a x) = true → (inL lad p.1 e != inL lad a e) = true) : farW lad B a x ≤ farW lad B a e := by
  refine sumf_le fun p hp => ?_
  have := hw p hp
  by_cases h1 : (inL lad p.1 x != inL lad a x) = true
  · rw [if_pos h1, if_pos (h p hp h1)]; omega
  · rw [if_neg h1]; split <;> omega
theorem sgn_sum (a e : Str) : sumf B (fun p => p.2 * (if (inL lad p.1 e != inL lad a e) = true then 1 else -1)) = 2 * farW lad B a e - allW B := by
  unfold farW allW
  rw [← sumf_mul]
  have : sumf B (fun p => p.2 * (if (inL lad p.1 e != inL lad a e) = true then 1 else -1)) + sumf B (fun p => p.2) = sumf B (fun p => 2 * (if (inL lad p.1 e != inL lad a e) = true then p.2 else 0)) := by
    rw [← sumf_add]
    exact sumf_congr fun p _ => by split <;> omega
  omega
theorem tot_diff (a c : Str) : totD lad ns len B c - totD lad ns len B a = sumf ns fun x => gl len x * (farW lad B c x - farW lad B a x) := by
  have : totD lad ns len B c = totD lad ns len B a + sumf ns fun x => gl len x * (farW lad B c x - farW lad B a x) := by
    unfold totD
    rw [← sumf_add]
    exact sumf_congr fun x _ => by rw [Int.mul_sub]; omega
  omega
theorem farW_flip {a c x : Str} (h : (inL lad c x != inL lad a x) = true) : farW lad B c x = allW B - farW lad B a x := by
  rw [farW_eq, farW_eq]
  cases h1 : inL lad c x <;> cases h2 : inL lad a x <;> simp [h1, h2] at h ⊢
  omega
theorem farW_same {a c x : Str} (h : (inL lad c x != inL lad a x) = false) : farW lad B c x = farW lad B a x := by
  rw [farW_eq, farW_eq]
  cases h1 : inL lad c x <;> cases h2 : inL lad a x <;> simp [h1, h2] at h ⊢

theorem median (T : TreeOk n0 ns lad) (hB : ∀ p ∈ B, p.1 ∈ n0 :: ns) (hw : ∀ p ∈ B, 0 ≤ p.2) (hl : ∀ n ∈ ns, 1 ≤ gl len n) {a : Str} (ha : a ∈ n0 :: ns) :
    (∃ c ∈ n0 :: ns, totD lad ns len B c < totD lad ns len B a) ↔ ∃ c ∈ n0 :: ns, 0 < sumf B fun p => p.2 * vot lad c a p.1 := by
  constructor
  · rintro ⟨c, hc, hlt⟩
    have hneg : sumf ns (fun x => gl len x * (farW lad B c x - farW lad B a x)) < 0 := by rw [← tot_diff]; omega
    obtain ⟨x, hx, hxn⟩ := sumf_neg_ex hneg
    have hlx := hl x hx
    have hd : farW lad B c x - farW lad B a x < 0 := by
      rcases Int.lt_or_le (farW lad B c x - farW lad B a x) 0 with h | h
      · exact h
      · exact absurd hxn (Int.not_lt.mpr (Int.mul_nonneg (by omega) h))
    have hdiff : (inL lad c x != inL lad a x) = true := by
      cases h : (inL lad c x != inL lad a x) with
      | true => rfl
      | false => rw [farW_same h] at hd; omega
    rw [farW_flip hdiff] at hd
    obtain ⟨b, hb, e, he, k⟩ := T.f2 a ha x hx
    refine ⟨b, hb, ?_⟩
    have e1 : sumf B (fun p => p.2 * vot lad b a p.1) = 2 * farW lad B a e - allW B := by
      rw [← sgn_sum]
      exact sumf_congr fun p hp => by rw [(k p.1 (hB p hp)).2]
    rw [e1]
    have := farW_le (lad := lad) hw (a := a) (x := x) (e := e) fun p hp => (k p.1 (hB p hp)).1
    omega
  · rintro ⟨c, hc, hlt⟩
    rcases T.f1 a ha c hc with rfl | ⟨b, hb, e, he, k1, k2⟩
    · have : sumf B (fun p => p.2 * vot lad a a p.1) = 0 := sumf_zero fun p _ => by simp [vot, voteK]
      omega
    · refine ⟨b, hb, ?_⟩
      have hle : sumf B (fun p => p.2 * vot lad c a p.1) ≤ 2 * farW lad B a e - allW B := by
        rw [← sgn_sum]
        exact sumf_le fun p hp => Int.mul_le_mul_of_nonneg_left (k2 p.1 (hB p hp)) (hw p hp)
      have hdiff : sumf ns (fun x => gl len x * (farW lad B b x - farW lad B a x)) < 0 := by
        have key : ∀ (r : List Str), r.Nodup → (∀ x ∈ r, x ∈ ns) → sumf r (fun x => gl len x * (farW lad B b x - farW lad B a x)) = if e ∈ r then gl len e * (allW B - 2 * farW lad B a e) else 0 := by
          intro r
          induction r with
          | nil => intro _ _; simp [sumf]
          | cons x r ih =>
            intro nd hs
            obtain ⟨hx, hr⟩ := List.nodup_cons.mp nd
            rw [sumf_cons, ih hr fun y hy => hs y (List.mem_cons_of_mem _ hy)]
            have kx := k1 x (hs x (List.mem_cons_self ..))
            by_cases hxe : x = e
            · subst hxe
              rw [beq_self_eq_true] at kx
              rw [if_neg hx, if_pos (List.mem_cons_self ..), farW_flip kx]
              have : allW B - farW lad B a x - farW lad B a x = allW B - 2 * farW lad B a x := by omega
              rw [this]; omega
            · rw [beq_eq_false_iff_ne.mpr hxe] at kx
              have hm : (e ∈ x :: r) ↔ (e ∈ r) := ⟨fun h => (List.mem_cons.mp h).resolve_left fun q => hxe q.symm, fun h => List.mem_cons_of_mem _ h⟩
              rw [farW_same kx]
              simp only [hm, Int.sub_self, Int.mul_zero, Int.zero_add]
        rw [key ns (List.nodup_cons.mp T.nd).2 fun _ h => h, if_pos he]
        have h1 := hl e he
        exact Int.mul_neg_of_pos_of_neg (by omega) (by omega)
      rw [← tot_diff] at hdiff
      omega
end
end Mine

end
section
open PySem PySem.W PyProof.Rows PySem.Calls PySem.Spec PySem.Builtin PySem.Builtin.Str
set_option Elab.async false
set_option maxRecDepth 100000
set_option maxHeartbeats 4000000
set_option linter.unusedVariables false
namespace Mine
def chOk (c : Nat) : Bool := (isSp c || (!isWs c && c != 92 && c != 34)) && (!(c == 92) || isSp c) && (!(c == 34) || isSp c)
theorem chOk_ns {c : Nat} (h : chOk c = true) (hs : isSp c = false) : isWs c = false ∧ c ≠ 92 ∧ c ≠ 34 := by
  unfold chOk at h
  simp only [hs, Bool.false_or, Bool.or_false, Bool.and_eq_true, Bool.not_eq_true', bne_iff_ne] at h
  exact ⟨h.1.1.1.1, h.1.1.1.2, h.1.1.2⟩
theorem ws92 : isWs 92 = false := by decide +kernel
theorem ws34 : isWs 34 = false := by decide +kernel
theorem app_assoc (t : Str) (l l' : List Nat) : (t ++ sL l) ++ sL l' = t ++ sL (l ++ l') := by
  have h1 : t = sL t.cps.toList := (sL_of t).symm
  rw [h1, sL_app, sL_app, sL_app, List.append_assoc]
theorem app_nil (t : Str) : t ++ sL [] = t := by
  have h1 : t = sL t.cps.toList := (sL_of t).symm
  rw [h1, sL_app, List.append_nil]
theorem nil_app (t : Str) : ("" : Str) ++ t = t := by
  have h1 : t = sL t.cps.toList := (sL_of t).symm
  have h2 : ("" : Str) = sL [] := rfl
  rw [h2, h1, sL_app, List.nil_append]
theorem lexW_esc (sep : Nat) (rest : List Nat) (hs : isWs sep = true) : ∀ (l : List Nat), (∀ c ∈ l, chOk c = true) → ∀ tok, lexW tok (l.flatMap escC ++ sep :: rest) = (tok ++ sL l, rest)
  | [], _, tok => by
    rw [List.flatMap_nil, List.nil_append, lexW.eq_def]
    simp only [hs, if_true, app_nil]
  | c :: l, hl, tok => by
    have hc := hl c (List.mem_cons_self ..)
    have ih := lexW_esc sep rest hs l (fun d hd => hl d (List.mem_cons_of_mem _ hd)) (tok ++ chS c)
    rw [chS_sL, app_assoc] at ih
    rw [List.flatMap_cons, List.append_assoc]
    cases he : isSp c with
    | true =>
      have e : escC c = [92, c] := by unfold escC; rw [if_pos he]
      rw [e]
      show lexW tok (92 :: c :: (l.flatMap escC ++ sep :: rest)) = _
      rw [lexW.eq_def]
      simp only [ws92, Bool.false_eq_true, if_false, if_true]
      exact ih
    | false =>
      obtain ⟨k1, k2, k3⟩ := chOk_ns hc he
      have e : escC c = [c] := by unfold escC; rw [if_neg (by rw [he]; decide)]
      rw [e]
      show lexW tok (c :: (l.flatMap escC ++ sep :: rest)) = _
      rw [lexW.eq_def]
      simp only [k1, k2, Bool.false_eq_true, if_false]
      exact ih
theorem lexQ_esc (rest : List Nat) : ∀ (l : List Nat), (∀ c ∈ l, chOk c = true) → ∀ tok, lexQ tok (l.flatMap escC ++ 34 :: rest) = (tok ++ sL l, rest)
  | [], _, tok => by
    rw [List.flatMap_nil, List.nil_append, lexQ.eq_def]
    simp only [if_true, app_nil]
  | c :: l, hl, tok => by
    have hc := hl c (List.mem_cons_self ..)
    have ih := lexQ_esc rest l (fun d hd => hl d (List.mem_cons_of_mem _ hd)) (tok ++ chS c)
    rw [chS_sL, app_assoc] at ih
    rw [List.flatMap_cons, List.append_assoc]
    cases he : isSp c with
    | true =>
      have e : escC c = [92, c] := by unfold escC; rw [if_pos he]
      rw [e]
      show lexQ tok (92 :: c :: (l.flatMap escC ++ 34 :: rest)) = _
      rw [lexQ.eq_def]
      have h92 : ¬ ((92 : Nat) = 34) := by decide
      simp only [h92, if_false, if_true]
      exact ih
    | false =>
      obtain ⟨k1, k2, k3⟩ := chOk_ns hc he
      have e : escC c = [c] := by unfold escC; rw [if_neg (by rw [he]; decide)]
      rw [e]
      show lexQ tok (c :: (l.flatMap escC ++ 34 :: rest)) = _
      rw [lexQ.eq_def]
      simp only [k2, k3, if_false]
      exact ih
theorem lexTop_enc {n : Str} (hn : ∀ c ∈ n.cps.toList, chOk c = true) (h0 : 0 < n.cps.toList.length) (q : Bool) {sep : Nat} (hs : isWs sep = true) (rest : List Nat) :
    lexTop (encL n q sep ++ rest) = (n, if q = true then sep :: rest else rest) := by
  cases q with
  | true =>
    have e : encL n true sep ++ rest = 34 :: (n.cps.toList.flatMap escC ++ 34 :: (sep :: rest)) := by simp [encL]
    rw [e, lexTop.eq_def]
    simp only [ws34, Bool.false_eq_true, if_false, if_true]
    rw [lexQ_esc _ _ hn, sL_of, nil_app]
  | false =>
    have e : encL n false sep ++ rest = n.cps.toList.flatMap escC ++ sep :: rest := by simp [encL]
    rw [e, if_neg (by decide)]
    have hsl := sL_of n
    revert hsl h0 hn
    generalize n.cps.toList = l
    intro hn h0 hsl
    cases l with
    | nil => cases h0
    | cons c l =>
      have hc := hn c (List.mem_cons_self ..)
      have ih := lexW_esc sep rest hs l (fun d hd => hn d (List.mem_cons_of_mem _ hd)) ("" ++ chS c)
      rw [chS_sL, app_assoc, nil_app] at ih
      have hsl' : sL ([c] ++ l) = n := hsl
      rw [hsl', nil_app, ← chS_sL] at ih
      rw [List.flatMap_cons, List.append_assoc]
      cases he : isSp c with
      | true =>
        have e : escC c = [92, c] := by unfold escC; rw [if_pos he]
        rw [e]
        show lexTop (92 :: c :: (l.flatMap escC ++ sep :: rest)) = _
        rw [lexTop.eq_def]
        have h92 : ¬ ((92 : Nat) = 34) := by decide
        simp only [ws92, h92, Bool.false_eq_true, if_false, if_true, nil_app]
        exact ih
      | false =>
        obtain ⟨k1, k2, k3⟩ := chOk_ns hc he
        have e : escC c = [c] := by unfold escC; rw [if_neg (by rw [he]; decide)]
        rw [e]
        show lexTop (c :: (l.flatMap escC ++ sep :: rest)) = _
        rw [lexTop.eq_def]
        simp only [k1, k2, k3, Bool.false_eq_true, if_false, nil_app]
        exact ih
theorem lexTop_ws {c : Nat} (hc : isWs c = true) (r : List Nat) : lexTop (c :: r) = lexTop r := by
  rw [lexTop.eq_def]
  simp only [hc, if_true]
theorem ws10 : isWs 10 = true ∧ isWs 9 = true ∧ isWs 13 = true ∧ isWs 32 = true := by decide +kernel
theorem ws_getD (k : Nat) : isWs (([10, 9, 13, 32] : List Nat).getD k 10) = true := by
  match k with
  | 0 => exact ws10.1
  | 1 => exact ws10.2.1
  | 2 => exact ws10.2.2.1
  | 3 => exact ws10.2.2.2
  | _ + 4 => exact ws10.1
theorem ws_bs (y : Int) : isWs (bsOf y) = true := ws_getD _
theorem bp_mem {names : List Str} (h : 0 < names.length) (y : Int) : bpOf names y ∈ names := by
  unfold bpOf
  have hp : (0 : Int) < (names.length : Int) := by omega
  have h1 := Int.fmod_nonneg_of_pos y hp
  have h2 := Int.fmod_lt_of_pos y hp
  have h3 : (y.fmod (names.length : Int)).toNat < names.length := by omega
  rw [List.getD_eq_getElem?_getD, List.getElem?_eq_getElem h3, Option.getD_some]
  exact List.getElem_mem h3
theorem enc_all {names : List Str} (h0 : 0 < names.length) (hn : ∀ n ∈ names, (∀ c ∈ n.cps.toList, chOk c = true) ∧ 0 < n.cps.toList.length) :
    ∀ (ys : List Int) (pre : List Nat), (pre = [] ∨ ∃ s, pre = [s] ∧ isWs s = true) → Enc (balOf names ys) (pre ++ txtOf names ys)
  | [], pre, hp => by
    show lexTop (pre ++ []) = (("" : Str), ([] : List Nat))
    rcases hp with rfl | ⟨s, rfl, hs⟩
    · rfl
    · exact lexTop_ws hs []
  | y :: ys, pre, hp => by
    obtain ⟨k1, k2⟩ := hn _ (bp_mem h0 y)
    have key : lexTop (pre ++ txtOf names (y :: ys)) = (bpOf names y, (if bqOf y = true then [bsOf y] else []) ++ txtOf names ys) := by
      have e : txtOf names (y :: ys) = encL (bpOf names y) (bqOf y) (bsOf y) ++ txtOf names ys := rfl
      have k : lexTop (txtOf names (y :: ys)) = (bpOf names y, (if bqOf y = true then [bsOf y] else []) ++ txtOf names ys) := by
        rw [e, lexTop_enc k1 k2 _ (ws_bs y)]
        cases bqOf y <;> rfl
      rcases hp with rfl | ⟨s, rfl, hs⟩
      · exact k
      · rw [← k]; exact lexTop_ws hs _
    refine ⟨congrArg Prod.fst key, ?_⟩
    rw [key]
    refine enc_all h0 hn ys _ ?_
    cases bqOf y with
    | true => exact .inr ⟨_, rfl, ws_bs y⟩
    | false => exact .inl rfl
theorem nl_cnt : ∀ l : List Nat, PyProof.Rows.cnt 10 l = Mine.cnt l
  | [] => rfl
  | c :: l => by
    have ih := nl_cnt l
    rw [Mine.cnt_cons, ← ih, PyProof.Rows.cnt_cons]
    rfl
theorem cntT (l : List Nat) : Txt.count (sL l) "\n" = Mine.cnt l := by
  have h := count_cnt (sL l) 10
  have e : (⟨#[10]⟩ : Str) = "\n" := rfl
  rw [e] at h
  rw [h, ← nl_cnt]
  rfl
end Mine

end
section
open PySem PySem.W PyProof.Rows PySem.Calls PySem.Spec PySem.Builtin PySem.Builtin.Str
set_option Elab.async false
set_option maxRecDepth 100000
set_option maxHeartbeats 4000000
set_option linter.unusedVariables false
namespace Mine
theorem chOk_of {n : Str} (h : wordOk n = true) : ∀ c ∈ n.cps.toList, chOk c = true := fun c hc => List.all_eq_true.mp h c hc
theorem bw_nn (y : Int) : 0 ≤ bwOf y := by unfold bwOf; split <;> omega
theorem fdiv_abs {y : Int} (k : Int) (hk : 0 < k) (h : Big y) : -(2 ^ 62) < y.fdiv k ∧ y.fdiv k < 2 ^ 62 := by
  obtain ⟨h1, h2⟩ := h
  have e := Int.mul_fdiv_add_fmod y k
  have f1 := Int.fmod_nonneg_of_pos y hk
  have f2 := Int.fmod_lt_of_pos y hk
  constructor
  · rcases Int.lt_or_le (-(2 ^ 62)) (y.fdiv k) with h | h
    · exact h
    · have := Int.mul_le_mul_of_nonneg_left h (Int.le_of_lt hk)
      have : k * -(2 ^ 62) + k ≤ -(2 ^ 62) + 1 := by omega
      omega
  · rcases Int.lt_or_le (y.fdiv k) (2 ^ 62) with h | h
    · exact h
    · have := Int.mul_le_mul_of_nonneg_left h (Int.le_of_lt hk)
      omega
theorem bw_lt {y : Int} (h : Big y) : bwOf y < 2 ^ 64 := by
  have := fdiv_abs 160 (by omega) h
  unfold bwOf; split <;> omega
theorem vis_le {B : List (Str × Int)} (h : ∀ p ∈ B, (climbs p.1.length p.1).length ≤ 9) : vis B ≤ 9 * B.length := by
  induction B with
  | nil => exact Nat.le_refl _
  | cons p B ih =>
    have h1 := h p (List.mem_cons_self ..)
    have h2 := ih fun q hq => h q (List.mem_cons_of_mem _ hq)
    have e : vis (p :: B) = (climbs p.1.length p.1).length + vis B := by simp [vis]
    rw [e, List.length_cons]; omega
theorem txt_le {names : List Str} (h0 : 0 < names.length) (h : ∀ n ∈ names, n.length ≤ 100) : ∀ ys : List Int, (txtOf names ys).length ≤ 203 * ys.length
  | [] => Nat.le_refl _
  | y :: ys => by
    have ih := txt_le h0 h ys
    have e : txtOf names (y :: ys) = encL (bpOf names y) (bqOf y) (bsOf y) ++ txtOf names ys := rfl
    have k := encL_len (bpOf names y) (bqOf y) (bsOf y)
    have k2 := h _ (bp_mem h0 y)
    rw [e, List.length_append, List.length_cons]; omega
theorem cmpZ_pos (x y : Int) : cmpZ x y > 0 ↔ y < x := by
  unfold cmpZ
  by_cases h1 : x < y
  · rw [if_pos h1]; constructor <;> intro h <;> omega
  · rw [if_neg h1]
    by_cases h2 : x > y
    · rw [if_pos h2]; exact ⟨fun _ => h2, fun _ => by decide⟩
    · rw [if_neg h2]; exact ⟨fun h => absurd h (by decide), fun h => absurd h h2⟩

theorem lp_of {n0 : Str} {ns : List Str} {lad : List (Str × List Str)} {len : List (Str × Int)} {nums : List Int} (T : TreeOk n0 ns lad) (hz : ns.length ≤ 90)
    (hlen : ∀ n ∈ ns, ∃ l, look len n = some l ∧ 1 ≤ l ∧ l < 2 ^ 64) (hn : nums.length ≤ 10) (hbig : ∀ x ∈ nums, Big x) : LP n0 ns lad len nums := by
  have h0 : 0 < (n0 :: ns).length := Nat.succ_pos _
  have hBmem : ∀ p ∈ balOf (n0 :: ns) nums, p.1 ∈ n0 :: ns ∧ 0 ≤ p.2 ∧ p.2 < 2 ^ 64 := by
    intro p hp
    obtain ⟨y, hy, rfl⟩ := List.mem_map.mp hp
    exact ⟨bp_mem h0 y, bw_nn y, bw_lt (hbig y hy)⟩
  have hB1 : ∀ p ∈ balOf (n0 :: ns) nums, p.1 ∈ n0 :: ns := fun p hp => (hBmem p hp).1
  have hB2 : ∀ p ∈ balOf (n0 :: ns) nums, 0 ≤ p.2 := fun p hp => (hBmem p hp).2.1
  have hBl : (balOf (n0 :: ns) nums).length = nums.length := by simp [balOf]
  have htot := totals_eq (len := len) T hB1
  have hgl : ∀ n ∈ ns, 1 ≤ gl len n := fun n hn => by
    obtain ⟨l, e, h1, _⟩ := hlen n hn
    unfold gl; rw [e]; exact h1
  refine ⟨hz, fun n hn => (T.small n hn).1, T.nd, T.up, ?_, ?_, ?_, ?_, hn, ?_, ?_, ?_, ?_, ?_, cntT _, ?_⟩
  · intro i n e
    have hi : i < ns.length := by
      rcases Nat.lt_or_ge i ns.length with h | h
      · exact h
      · rw [List.getElem?_eq_none h] at e; cases e
    have hp := T.par i hi
    rw [List.getD_eq_getElem?_getD, e, Option.getD_some] at hp
    exact ⟨(T.up n (List.mem_cons_of_mem _ (List.mem_of_getElem? e))).1, hp⟩
  · intro n hn
    obtain ⟨l, e, h1, h2⟩ := hlen n hn
    exact ⟨l, e, by omega, h2⟩
  · intro n hn
    obtain ⟨e, h1, _⟩ := T.ladr n hn
    exact ⟨_, e, by omega⟩
  · intro a ha c hc x hx
    have hm := (T.perm a ha c hc).mem_iff.mp hx
    obtain ⟨l, e, _⟩ := hlen x (List.mem_filter.mp hm).1
    rw [e]; rfl
  · intro p hp
    obtain ⟨k1, k2, k3⟩ := hBmem p hp
    exact ⟨k1, by omega, k3⟩
  · have := txt_le h0 (fun n hn => (T.small n hn).1) nums
    omega
  · exact enc_all h0 (fun n hn => ⟨chOk_of (T.small n hn).2.1, (T.small n hn).2.2⟩) nums [] (.inl rfl)
  · have := vis_le (B := balOf (n0 :: ns) nums) fun p hp => (T.ladr p.1 (hB1 p hp)).2.1
    omega
  · rw [htot]
    exact List.map_congr_left fun a ha => by rw [sums_tot T hB1 ha]
  · rw [htot]
    unfold unbeaten
    refine List.filter_congr fun a ha => ?_
    congr 1
    rw [Bool.eq_iff_iff, List.any_eq_true, List.any_eq_true]
    have gt : ∀ c ∈ n0 :: ns, gl ((n0 :: ns).map fun a => (a, totD lad ns len (balOf (n0 :: ns) nums) a)) c = totD lad ns len (balOf (n0 :: ns) nums) c := fun c hc => by
      unfold gl; rw [look_map _ hc]; rfl
    have wt : ∀ c ∈ n0 :: ns, (look ((n0 :: ns).map fun a => (a, (balOf (n0 :: ns) nums).map fun p => linksLL lad a p.1)) c).getD [] = (balOf (n0 :: ns) nums).map fun p => linksLL lad c p.1 := fun c hc => by
      rw [look_map (fun a => (balOf (n0 :: ns) nums).map fun p => linksLL lad a p.1) hc]; rfl
    have M := median (len := len) T hB1 hB2 hgl ha
    constructor
    · rintro ⟨c, hc, h⟩
      have h := of_decide_eq_true h
      rw [gt a ha, gt c hc, cmpZ_pos] at h
      obtain ⟨d, hd, k⟩ := M.mp ⟨c, hc, h⟩
      refine ⟨d, hd, ?_⟩
      unfold beats
      refine decide_eq_true ?_
      rw [wt a ha, wt d hd, lostS_eq (linksLL lad d) (linksLL lad a)]
      rw [sumf_congr fun p hp => voteK_mul (linksLL lad d p.1) (linksLL lad a p.1) p.2]
      exact k
    · rintro ⟨d, hd, h⟩
      unfold beats at h
      have h := of_decide_eq_true h
      rw [wt a ha, wt d hd, lostS_eq (linksLL lad d) (linksLL lad a)] at h
      rw [sumf_congr fun p hp => voteK_mul (linksLL lad d p.1) (linksLL lad a p.1) p.2] at h
      obtain ⟨c, hc, k⟩ := M.mpr ⟨d, hd, h⟩
      refine ⟨c, hc, decide_eq_true ?_⟩
      rw [gt a ha, gt c hc, cmpZ_pos]
      exact k

theorem plRun_n : ∀ (jl : List (Nat × Int)) (k : Nat) (s : PL), (plRun k jl s).1.length = s.1.length + jl.length
  | [], k, s => rfl
  | p :: ps, k, s => by
    show (plRun (k + 1) ps (plStep k p s)).1.length = _
    rw [plRun_n ps]
    have : (plStep k p s).1.length = s.1.length + 1 := by unfold plStep; simp
    rw [this, List.length_cons]; omega
theorem jl_len (hosts : List Int) : (jlOf hosts).length = hosts.length := by simp [jlOf]
theorem tree_ok (hosts : List Int) (top : Str) (h : hosts.length = 3 ∨ hosts.length = 4) (ht : top = ("local" : Str) ∨ top = ("c7.net" : Str)) :
    ∃ n0 ns, (plRun 0 (jlOf hosts) (plInit top)).1 = n0 :: ns ∧ TreeOk n0 ns (plRun 0 (jlOf hosts) (plInit top)).2.1 := by
  have hboth : TreeP nl0 ((jlOf hosts).map (·.1)) ∧ TreeP nc0 ((jlOf hosts).map (·.1)) := by
    rcases h with h | h
    · exact trees3 _ (js3_mem (by rw [List.length_map, jl_len, h]) (jlOf_fst hosts))
    · exact trees4 _ (js4_mem (by rw [List.length_map, jl_len, h]) (jlOf_fst hosts))
  have hj : TreeP top ((jlOf hosts).map (·.1)) := by
    rcases ht with rfl | rfl
    · rw [show ("local" : Str) = nl0 by decide +kernel]; exact hboth.1
    · rw [show ("c7.net" : Str) = nc0 by decide +kernel]; exact hboth.2
  have F := plRun_fst (((jlOf hosts).map (·.1)).map fun j => (j, (1 : Int))) (jlOf hosts) 0 (plInit top) (plInit top) (by rw [List.map_map]; exact List.map_id _) rfl rfl
  unfold TreeP plJ at hj
  rw [← F.1, ← F.2]
  exact hj
theorem plain_proof : ∀ (xs : List Int) (top : Str), (xs.length = 7 ∨ xs.length = 9) → (∀ x ∈ xs, Mine.Big x) → (top = ("local" : Str) ∨ top = ("c7.net" : Str)) →
    ∃ n0 ns, (Mine.plRun 0 (Mine.jlOf (xs.take (xs.length / 2))) (Mine.plInit top)).1 = n0 :: ns ∧ Mine.LP n0 ns (Mine.plRun 0 (Mine.jlOf (xs.take (xs.length / 2))) (Mine.plInit top)).2.1 (Mine.plRun 0 (Mine.jlOf (xs.take (xs.length / 2))) (Mine.plInit top)).2.2 (xs.drop (xs.length / 2)) := by
  intro xs top hx hb ht
  have h1 : (xs.take (xs.length / 2)).length = 3 ∨ (xs.take (xs.length / 2)).length = 4 := by rw [List.length_take]; omega
  have h2 : (xs.drop (xs.length / 2)).length ≤ 10 := by rw [List.length_drop]; omega
  have hb1 : ∀ x ∈ xs.take (xs.length / 2), Big x := fun x hx => hb x (List.mem_of_mem_take hx)
  have hb2 : ∀ x ∈ xs.drop (xs.length / 2), Big x := fun x hx => hb x (List.mem_of_mem_drop hx)
  generalize xs.take (xs.length / 2) = hosts at *
  generalize xs.drop (xs.length / 2) = nums at *
  obtain ⟨n0, ns, e1, T⟩ := tree_ok hosts top h1 ht
  have hl := plRun_len (fun l => 1 ≤ l ∧ l < 2 ^ 64) (jlOf hosts) 0 (plInit top)
    (by
      intro p hp
      unfold jlOf at hp
      obtain ⟨i, hi, e⟩ := List.mem_mapIdx.mp hp
      have hbg := fdiv_abs 12 (by omega) (hb1 hosts[i] (List.getElem_mem hi))
      rw [← e]
      simp only
      split <;> omega)
    (fun n l e => nomatch e) (fun n hn => nomatch hn) (by unfold plInit; simp)
  have hcount := plRun_n (jlOf hosts) 0 (plInit top)
  have hs : (plInit top).1.length = 1 := rfl
  rw [e1, List.length_cons, jl_len, hs] at hcount
  refine ⟨n0, ns, e1, lp_of T (by omega) ?_ h2 hb2⟩
  intro n hn
  obtain ⟨l, e⟩ := hl.2 n (by rw [e1]; exact hn)
  exact ⟨l, e, hl.1 n l e⟩
end Mine

end
theorem PySem.Challenge.cw_xo0020_01_holds : PySem.Challenge.rw_xo0020_01.Holds := by
  exact Mine.main_law Mine.plain_proof
