import PyProof.Rows.All
import Wide.All
import OpenK.AllK
import Wide.FinOn
import PyProof.Rows.CellsRaise
import KE.KDeep
import KE.KListMore
import PyProof.Rows.StrTemp
import PyProof.Rows.WhileGen
import PyProof.Rows.BitMore
import Lean
import PySem.Challenge.RW_wf0009_01
set_option Elab.async false
section
namespace Mine
/-- bisect_left's loop over a list of ints, with fuel -/
def bisF (ns : List Int) (x : Int) : Nat → Nat → Nat → Nat
  | 0, lo, _ => lo
  | n + 1, lo, hi => if lo < hi then (if ns.getD ((lo + hi) / 2) 0 < x then bisF ns x n ((lo + hi) / 2 + 1) hi else bisF ns x n lo ((lo + hi) / 2)) else lo
def bis (ns : List Int) (x : Int) : Nat := bisF ns x ns.length 0 ns.length

theorem bisF_done (ns : List Int) (x : Int) : ∀ n lo hi, hi ≤ lo → bisF ns x n lo hi = lo
  | 0, _, _, _ => rfl
  | n + 1, lo, hi, h => by unfold bisF; rw [if_neg (by omega)]
theorem bisF_fuel (ns : List Int) (x : Int) : ∀ n k lo hi, hi - lo ≤ n → hi - lo ≤ k → bisF ns x n lo hi = bisF ns x k lo hi
  | 0, k, lo, hi, h, _ => by rw [bisF_done ns x k lo hi (by omega)]; rfl
  | n + 1, 0, lo, hi, _, h => by rw [bisF_done ns x (n + 1) lo hi (by omega)]; rfl
  | n + 1, k + 1, lo, hi, h1, h2 => by
    unfold bisF
    by_cases h : lo < hi
    · rw [if_pos h, if_pos h]
      by_cases g : ns.getD ((lo + hi) / 2) 0 < x
      · rw [if_pos g, if_pos g]; exact bisF_fuel ns x n k _ _ (by omega) (by omega)
      · rw [if_neg g, if_neg g]; exact bisF_fuel ns x n k _ _ (by omega) (by omega)
    · rw [if_neg h, if_neg h]
theorem fdiv2 (a : Int) : a.fdiv 2 = a / 2 := by rw [Int.fdiv_eq_ediv]; simp
theorem bisF_step (ns : List Int) (x : Int) {lo hi : Nat} (h : lo < hi) : bisF ns x (hi - lo) lo hi = if ns.getD ((lo + hi) / 2) 0 < x then bisF ns x (hi - ((lo + hi) / 2 + 1)) ((lo + hi) / 2 + 1) hi else bisF ns x ((lo + hi) / 2 - lo) lo ((lo + hi) / 2) := by
  obtain ⟨n, hn⟩ : ∃ n, hi - lo = n + 1 := ⟨hi - lo - 1, by omega⟩
  rw [hn]
  conv => lhs; unfold bisF
  rw [if_pos h]
  by_cases g : ns.getD ((lo + hi) / 2) 0 < x
  · rw [if_pos g, if_pos g]; exact bisF_fuel ns x _ _ _ _ (by omega) (by omega)
  · rw [if_neg g, if_neg g]; exact bisF_fuel ns x _ _ _ _ (by omega) (by omega)

abbrev BisInv (ns : List Int) (x lo hi : Int) : Prop := 0 ≤ lo ∧ lo ≤ hi ∧ hi ≤ (ns.length : Int) ∧ bisF ns x (hi - lo).toNat lo.toNat hi.toNat = bis ns x
theorem bis_start (ns : List Int) (x : Int) : BisInv ns x 0 (ns.length : Int) := ⟨by omega, by omega, by omega, by simp [bis]⟩
theorem bis_up {ns : List Int} {x lo hi : Int} (h0 : 0 ≤ lo) (_h1 : lo ≤ hi) (h2 : hi ≤ (ns.length : Int)) (h3 : bisF ns x (hi - lo).toNat lo.toNat hi.toNat = bis ns x) (h : lo < hi) (g : ns.getD ((lo + hi).fdiv 2).toNat 0 < x) :
    BisInv ns x ((lo + hi).fdiv 2 + 1) hi := by
  rw [fdiv2] at g ⊢
  refine ⟨by omega, by omega, h2, ?_⟩
  have e1 : (hi - lo).toNat = hi.toNat - lo.toNat := by omega
  have e2 : ((lo + hi) / 2).toNat = (lo.toNat + hi.toNat) / 2 := by omega
  rw [e1, bisF_step ns x (by omega), ← e2, if_pos g] at h3
  rw [← h3]
  have e3 : (hi - ((lo + hi) / 2 + 1)).toNat = hi.toNat - (((lo + hi) / 2).toNat + 1) := by omega
  have e4 : ((lo + hi) / 2 + 1).toNat = ((lo + hi) / 2).toNat + 1 := by omega
  rw [e3, e4]
theorem bis_down {ns : List Int} {x lo hi : Int} (h0 : 0 ≤ lo) (_h1 : lo ≤ hi) (h2 : hi ≤ (ns.length : Int)) (h3 : bisF ns x (hi - lo).toNat lo.toNat hi.toNat = bis ns x) (h : lo < hi) (g : ¬ ns.getD ((lo + hi).fdiv 2).toNat 0 < x) :
    BisInv ns x lo ((lo + hi).fdiv 2) := by
  rw [fdiv2] at g ⊢
  refine ⟨h0, by omega, by omega, ?_⟩
  have e1 : (hi - lo).toNat = hi.toNat - lo.toNat := by omega
  have e2 : ((lo + hi) / 2).toNat = (lo.toNat + hi.toNat) / 2 := by omega
  rw [e1, bisF_step ns x (by omega), ← e2, if_neg g] at h3
  rw [← h3]
  have e3 : ((lo + hi) / 2 - lo).toNat = ((lo + hi) / 2).toNat - lo.toNat := by omega
  rw [e3]
theorem bis_end {ns : List Int} {x lo hi : Int} (h0 : 0 ≤ lo) (_h1 : lo ≤ hi) (_h2 : hi ≤ (ns.length : Int)) (h3 : bisF ns x (hi - lo).toNat lo.toNat hi.toNat = bis ns x) (h : ¬ lo < hi) : lo = (bis ns x : Int) := by
  rw [bisF_done ns x _ _ _ (by omega)] at h3
  omega
theorem bis_mu {lo hi : Int} (h : lo < hi) : (hi - ((lo + hi).fdiv 2 + 1)).toNat < (hi - lo).toNat := by rw [fdiv2]; omega
theorem bis_md {lo hi : Int} (h : lo < hi) : ((lo + hi).fdiv 2 - lo).toNat < (hi - lo).toNat := by rw [fdiv2]; omega
theorem bis_le (ns : List Int) (x : Int) : bis ns x ≤ ns.length := by
  have key : ∀ n lo hi, lo ≤ hi → hi ≤ ns.length → bisF ns x n lo hi ≤ ns.length := by
    intro n
    induction n with
    | zero => intro lo hi h1 h2; simp only [bisF]; omega
    | succ n ih =>
      intro lo hi h1 h2
      unfold bisF
      split
      · split
        · exact ih _ _ (by omega) h2
        · exact ih _ _ (by omega) (by omega)
      · omega
  exact key _ _ _ (Nat.zero_le _) (Nat.le_refl _)
end Mine
end

section
open PySem PySem.W PyProof.Rows
namespace Mine
/-- the calls on a stack that a bytearray's making asks for -/
def dirtyIds : List String := ["bytearray.__contains__", "bytearray.__mod__", "bytearray.__rmod__", "_struct.pack_into.held", "bytearray.find.held"] ++ Builtin.Bytes.decodersThatHold
def dirty : Code → Bool
  | .builtin id _ => dirtyIds.contains id
  | _ => false
def CleanL (l : List (Code × Pos)) : Prop := ∀ x ∈ l, dirty x.1 = false
/-- what a tree does over every stack that holds none of them -/
def wpC {α : Type} (M : Model) (A : Around) (t : Sem α) (Q : α → Shared → Prop) (E : Value → Shared → Prop) (s : Shared) : Prop :=
  ∀ (Γ : Ctx) p, dirty Γ.code = false → CleanL Γ.below → Γ.In A → Sem.wp M Γ t (fun a _ s' => Q a s') (fun e _ s' => E e s') p s
def codeC (M : Model) (A : Around) (c : Code) (R : Result → Shared → Prop) (s : Shared) : Prop :=
  ∀ (Γ : Ctx) p, Γ.code = c → CleanL Γ.below → Γ.Below A → wpCode M Γ R p s
section
variable {α β : Type} {M : Model} {A : Around} {E : Value → Shared → Prop} {s : Shared}
theorem wpC_of {t : Sem α} {Q : α → Shared → Prop} (h : wpAny M A t Q E s) : wpC M A t Q E s := fun Γ p _ _ hΓ => h Γ p hΓ
theorem codeC_of {c : Code} {R : Result → Shared → Prop} (h : codeAny M A c R s) : codeC M A c R s := fun Γ p hc _ hΓ => h Γ p hc hΓ
theorem wpC_pure {a : α} {Q : α → Shared → Prop} (h : Q a s) : wpC M A (pure a) Q E s := wpC_of (wpAny_pure h)
theorem wpC_mono {t : Sem α} {Q Q' : α → Shared → Prop} {E' : Value → Shared → Prop} (h : wpC M A t Q E s) (hQ : ∀ a s, Q a s → Q' a s) (hE : ∀ e s, E e s → E' e s) : wpC M A t Q' E' s :=
  fun Γ p d c hΓ => Sem.wp_mono M Γ t (fun a _ s => hQ a s) (fun e _ s => hE e s) p s (h Γ p d c hΓ)
theorem wpC_bind {m : Sem α} {f : α → Sem β} {Q : β → Shared → Prop} (h : wpC M A m (fun a s' => wpC M A (f a) Q E s') E s) : wpC M A (m >>= f) Q E s := fun Γ p d c hΓ => by
  rw [Sem.wp_bind']
  exact Sem.wp_mono M Γ m (fun a p' s' h' => h' Γ p' d c hΓ) (fun _ _ _ h' => h') p s (h Γ p d c hΓ)
theorem wpC_holding {vs : List Value} {m : Sem α} {Q : α → Shared → Prop} (h : wpC M A m Q E s) : wpC M A (holding vs m) Q E s := fun Γ p d c hΓ => by
  rw [Sem.wp_holding]; exact h Γ p d c hΓ
theorem wpC_keep {vs : List Value} {m : Sem α} {Q : α → Shared → Prop} (h : wpC M A m Q E s) : wpC M A (m.keep vs) Q E s := fun Γ p d c hΓ => by
  rw [Sem.wp_keep]; exact h Γ p d c hΓ
theorem wpC_onRaise {m : Sem α} {k : Value → Sem Unit} {Q : α → Shared → Prop} (h : wpC M A m Q (fun e s' => wpAny M A (k e) (fun _ s'' => E e s'') E s') s) : wpC M A (m.onRaise k) Q E s := fun Γ p d c hΓ => by
  rw [Sem.wp_onRaise]
  exact Sem.wp_mono M Γ m (fun _ _ _ h' => h') (fun e p' s' h' => h' Γ p' hΓ) p s (h Γ p d c hΓ)
theorem wpC_runValue {c : Code} {Q : Value → Shared → Prop} (hc : codeC M A c (fun r s' => match r with | .ok (.ret v) => Q v s' | .ok _ => False | .error e => E e s') s) : wpC M A (runValue c) Q E s := fun Γ p d cl hΓ => by
  rw [Sem.wp_runValue]
  refine hc _ p rfl ?_ (hΓ.enter c none p (by intro x; cases x))
  intro x hx
  rcases List.mem_cons.mp hx with rfl | hx
  · exact d
  · exact cl x hx
theorem wpC_call {f : Value} {pos : List Value} {kw : List (Str × Value)} {Q : Value → Shared → Prop}
    (hc : codeC M A (.call f ⟨pos, kw⟩) (fun r s' => match r with | .ok (.ret v) => Q v s' | .ok _ => False | .error e => E e s') s) : wpC M A (call f pos kw) Q E s := wpC_runValue hc
theorem codeC_mono {c : Code} {R R' : Result → Shared → Prop} (h : codeC M A c R s) (hR : ∀ r s, R r s → R' r s) : codeC M A c R' s := fun Γ p hc cl hΓ => wpCode_mono hR (h Γ p hc cl hΓ)
theorem codeC_of_tree {c : Code} {R : Result → Shared → Prop} (hd : dirty c = false)
    (h : wpC M (A.under c) (M.den c) (fun fin s' => match fin with | .done f => R (.ok f) s' | .again c' => c'.quiet = true ∧ codeC M A c' R s') (fun e s' => R (.error e) s') s) : codeC M A c R s := fun Γ p hc cl hΓ => by
  rw [wpCode_iff_wp, hc]
  refine Sem.wp_mono M Γ _ (fun fin p' s' h' => ?_) (fun _ _ _ h' => h') p s (h Γ p (hc ▸ hd) cl (hc ▸ hΓ.in))
  cases fin with
  | done f => exact h'
  | again c' => exact ⟨h'.1, h'.2 (Γ.goto c') p' rfl cl (hΓ.goto c')⟩
theorem exported_decoder {id : String} {v self : Value} (h : dirtyIds.contains id = false) : (Builtin.Bytes.sameRef v self && Builtin.Bytes.decodersThatHold.contains id) = false := by
  have : Builtin.Bytes.decodersThatHold.contains id = false := by
    unfold dirtyIds at h
    rw [List.contains_eq_any_beq, List.any_append, Bool.or_eq_false_iff] at h
    rw [List.contains_eq_any_beq]
    exact h.2
  rw [this, Bool.and_false]
/-- over such a stack nothing is exported -/
theorem wpC_exported {self : Value} {Q : Bool → Shared → Prop} (h : Q false s) : wpC M A (Builtin.Bytes.exported self) Q E s := fun Γ p d cl hΓ => by
  unfold Builtin.Bytes.exported
  rw [Sem.wp_bind']
  show Q (((Γ.code, p) :: Γ.below).any _) s
  have : ∀ (l : List (Code × Pos)) (f : Code × Pos → Bool), (∀ x ∈ l, f x = false) → l.any f = false := fun l f hf => by
    rw [List.any_eq_false]
    intro x hx
    rw [hf x hx]; exact Bool.false_ne_true
  rw [this]
  · exact h
  · intro x hx
    have hd : dirty x.1 = false := by
      rcases List.mem_cons.mp hx with rfl | hx
      · exact d
      · exact cl x hx
    obtain ⟨c, q⟩ := x
    split
    · rename_i e; cases e; exact absurd (show dirtyIds.contains "bytearray.__contains__" = false from hd) (by decide)
    · rename_i e; cases e; exact absurd (show dirtyIds.contains "bytearray.__mod__" = false from hd) (by decide)
    · rename_i e; cases e; exact absurd (show dirtyIds.contains "bytearray.__rmod__" = false from hd) (by decide)
    · rename_i e; cases e; exact absurd (show dirtyIds.contains "_struct.pack_into.held" = false from hd) (by decide)
    · rename_i e; cases e; exact absurd (show dirtyIds.contains "bytearray.find.held" = false from hd) (by decide)
    · rename_i e; cases e; exact exported_decoder hd
    · rfl
end
end Mine
end

section
open PySem PySem.W PyProof.Rows
namespace Mine
/-- a stack that bears no code which asks for a bytearray's buffer -/
def cleanSt (st : List (Code × Pos)) : Bool := st.all fun x => !dirty x.1
/-- a tree that is run over such stacks alone; else alt stands in its place -/
def guarded {α : Type} (t : Sem α) (alt : α) : Sem α := Sem.stack fun st => if cleanSt st = true then t else pure alt
theorem cleanSt_cons {c : Code} {p : Pos} {l : List (Code × Pos)} (h : cleanSt ((c, p) :: l) = true) : dirty c = false ∧ CleanL l := by
  unfold cleanSt at h
  rw [List.all_cons, Bool.and_eq_true] at h
  exact ⟨by simpa using h.1, fun x hx => by simpa using List.all_eq_true.mp h.2 x hx⟩
section
variable {α : Type} {M : Model} {A : Around} {t : Sem α} {alt : α} {Q : α → Shared → Prop} {E : Value → Shared → Prop} {s : Shared}
theorem wpAny_guarded (h : wpC M A t Q E s) (ha : Q alt s) : wpAny M A (guarded t alt) Q E s := fun Γ p hΓ => by
  unfold guarded
  rw [Sem.wp_stack]
  split
  · rename_i c
    obtain ⟨d, cl⟩ := cleanSt_cons c
    exact h Γ p d cl hΓ
  · exact ha
theorem wpC_guarded (h : wpAny M A (guarded t alt) Q E s) : wpC M A t Q E s := fun Γ p d cl hΓ => by
  have x := h Γ p hΓ
  unfold guarded at x
  rw [Sem.wp_stack, if_pos] at x
  · exact x
  · unfold cleanSt
    rw [List.all_cons, d]
    exact List.all_eq_true.mpr fun y hy => by rw [cl y hy]; rfl
end
/-- the guard's own step -/
theorem sched_guarded {prog : Program} {w : World} {s s' : Shared} {t : Sem Fin} {alt : Fin} {o : Outcome} (z : s.asleep) : ∀ n, schedN (denote table) prog w n (.single s ⟨guarded t alt, .builtin "claim.caller" {}, default, []⟩) = .halted o s' →
    ∃ m, schedN (denote table) prog w m (.single s ⟨t, .builtin "claim.caller" {}, default, []⟩) = .halted o s'
  | 0, h => by cases h
  | n + 1, h => by
    have hs : step (denote table) prog w s ⟨guarded t alt, .builtin "claim.caller" {}, default, []⟩ = .go s ⟨t, .builtin "claim.caller" {}, default, []⟩ := rfl
    have hc : Thread.calm ⟨guarded t alt, .builtin "claim.caller" {}, default, []⟩ = true := rfl
    rw [schedN] at h
    rcases sstep_single (den := denote table) (prog := prog) (w := w) s _ hc z with e | e
    · rw [e, hs] at h
      exact ⟨n, h⟩
    · rw [hs] at e; cases e
theorem true_post (l : OpenLaw) (args : List WData) : l.row.toRowW.claim.post args (.bool true) args = true := by wrow_post
theorem true_raise (l : OpenLaw) (args : List WData) : ∀ cls, l.row.toRowW.claim.raises args cls = false := raisesW_false (by wrow_none_raised)
/-- the head's theorem for a law whose call is shown over clean stacks alone -/
theorem PySem.W.holds_open {l : OpenLaw} {q : Program} {loose : List Str} {Xt : Shared → Bool} {XP : (Str → Option Value) → Heap → Prop} {α : Type} {Yf : Shared → α} {Ya : World → α} {YP : World → Heap → Prop} {d : DefRec} {kwd : List (Str × Expr)} {N : Nat}
    (left : LeftO l.row.prog q loose Xt Yf Ya N) (hY : ∀ w s, Yf s = Ya w → YP w s.heap) (hYk : ∀ w h h', YP w h → (∀ b o, h.get? b = some o → h'.get? b = some o) → YP w h')
    (hX : ∀ s, Xt s = true → XP (s.heap.nsMap mainGlobals) s.heap) (hXk : ∀ mg h h', XP mg h → (∀ b o, h.get? b = some o → h'.get? b = some o) → XP mg h')
    (hdef : defOf q l.row.name = some (d, kwd)) (hp : l.row.prog.theDef l.row.name = some (d.params, d.body, d.scope)) (hk : kwWritten? d.params.kwonlyargs d.params.kw_defaults = some kwd) (hRf : ∀ s, Xt s = true → RecFacts l.row.records s.heap) (hwr : (!l.row.writes || l.row.records.isEmpty) = true)
    (k1 : l.row.wellSaid = true) (ok : (chainsOk q && opensWell l.row.prog && (frees l.row.toRowW && l.row.within.isEmpty)) = true) (hb : l.row.prog.bare) (hw : l.row.toRowW.promised)
    (call : ∀ (w : World) (s₀ s₁ : Shared) (mg mb : Str → Option Value), Ground q loose l.row.records XP w s₀ mg mb s₁.heap → YP w s₁.heap → ∀ (a : Addr) (o : Obj) (pm cd doc dV kV : Value), s₁.heap.get? a = some o →
      o.data = .func { Calls.docDef d.name d.params d.body d.scope pm cd doc with defaults := dV, kwdefaults := kV } → s₁.heap.CodeRec cd d.name → Dflts mg s₁.heap d.params kwd dV kV → mg d.name = some (.ref a) → s₁.gens = #[] →
      ∀ (args : List WData) (vals : List Value) (as : List Addr), l.row.toRowW.claim.pre args = true → WData.layableAll args = true → ReadsAllW l.row.records (classAt s₀.heap) s₁.heap vals args as → WellAll w.params s₁.heap vals args → (∀ a ∈ as, (a == sysModules) = false) →
        wpC (model l.row.prog w) callerA (PySem.call (.ref a) vals) (fun v s' => GoodWG l.row.toRowW.claim (classAt s₀.heap) (ExcName.means s₀.heap) args s₁ (.ok (.ret v)) s')
          (fun e s' => GoodWG l.row.toRowW.claim (classAt s₀.heap) (ExcName.means s₀.heap) args s₁ (.error e) s') s₁) : l.row.Holds := by
  have hch : chainsOk q = true := by
    simp only [Bool.and_eq_true] at ok
    exact ok.1.1
  -- the library's theorem, for the guarded call
  have H := open_anyG (r := l.row.toRowW) (run := fun f vs => guarded (PySem.call f vs) (.bool true)) (tree := fun vs => guarded (callStub l.row.name vs).cur (.done (.ret (.bool true))))
    (defs := if l.row.pinned then [l.row.name] else []) (kps := l.row.keeps) (writes := l.row.writes) left hY hYk hX hXk hRf hwr ok hb hw ?_ ?_ ?_
  · -- from the guarded call to the stub's
    obtain ⟨h1, h2, h3⟩ := H
    refine ⟨k1, hw, h1, h2, fun w => ⟨(h3 w).1, fun s hs => ?_⟩⟩
    obtain ⟨t₀, e₀, _, t₁, r₁, z₁, _⟩ := (left.behind hX hch w).2 s hs
    obtain ⟨s₀, hf, hg, s₁, hT, hd, hr, hq, hcall⟩ := (h3 w).2 s hs
    obtain rfl : t₀ = s₀ := Option.some.inj (e₀.symm.trans hf)
    have z : s₁.asleep := Shared.asleep_of_life (hT.2.1.trans r₁.2.1.symm) z₁
    refine ⟨t₀, hf, hg, s₁, hT, hd, hr, hq, fun args hpre hlay ord hord => ?_⟩
    obtain ⟨vs, s₂, hl, n, o, s', hn, rest⟩ := hcall args hpre hlay ord hord
    obtain ⟨m, hm⟩ := sched_guarded (Shared.asleep_of_life (layAllW_rest _ _ _ hl).2.2.2 z) n hn
    exact ⟨vs, s₂, hl, m, o, s', hm, rest⟩
  · -- the stub's tree under the guard
    intro vs w s mg f Q E hg hf h Γ p hΓ
    have hC : wpC (model l.row.prog w) callerA (callStub l.row.name vs).cur Q E s := by
      refine wpC_bind (wpC_of (wpAny_nsGet hg ?_))
      rw [hf]
      exact wpC_bind (wpC_mono (wpC_guarded h) (fun _ _ x => wpC_pure x) fun _ _ x => x)
    have x := h Γ p hΓ
    unfold guarded at x ⊢
    rw [Sem.wp_stack] at x ⊢
    by_cases c : cleanSt ((Γ.code, p) :: Γ.below) = true
    · rw [if_pos c]
      obtain ⟨d, cl⟩ := cleanSt_cons c
      exact hC Γ p d cl hΓ
    · rw [if_neg c] at x ⊢
      exact x
  · intro w s hg G n hn
    have e : n = l.row.name := by
      by_cases c : l.row.pinned = true
      · rw [if_pos c] at hn; exact List.mem_singleton.mp hn
      · rw [if_neg c] at hn; exact absurd hn List.not_mem_nil
    rw [e]
    exact pinned_of_view hg G hdef hp hk
  · intro w s₀ s₁ mg mb G Y args vs as hpre hlay L low
    obtain ⟨a, o, pm, cd, doc, dV, kV, h1, h2, h3, h4, h5⟩ := G.fn hdef
    have hn : d.name = l.row.name := defOf_name hdef
    exact ⟨.ref a, h1, wpAny_guarded (call w s₀ s₁ mg mb G Y a o pm cd doc dV kV h2 h3 h4 h5 (by rw [hn]; exact h1) L.gens args vs as hpre hlay L.reads L.well (L.low low))
      (GoodW.toG ⟨.inl ⟨_, _, [], rfl, true_raise l args, .bool true, true_post l args, unshared_nil⟩, fun _ _ e => e, rfl, L.gens⟩)⟩
end Mine
end

section
open PySem PySem.W PyProof.Rows
namespace Mine
set_option maxRecDepth 100000 in
set_option maxHeartbeats 8000000 in
open_top hd for PySem.Challenge.rw_wf0009_01
end Mine
end

section
open PySem PySem.W PyProof.Rows PySem.Calls
namespace Mine
section
variable {M : Model} {A : Around} {E : Value → Shared → Prop} {s : Shared} {env : Env}
theorem execsC_cons {st : Stmt} {rest : List Stmt} {Q : Flow → Shared → Prop} (h : wpC M A (exec st env) (fun f s' => match f with | .next => wpC M A (execs rest env) Q E s' | f => Q f s') E s) : wpC M A (execs (st :: rest) env) Q E s := by
  rw [execs_cons]
  refine wpC_bind (wpC_mono h (fun f s' h' => ?_) fun _ _ x => x)
  cases f <;> first | exact h' | exact wpC_pure h'
/-- a statement off the path -/
theorem execsC_step {st : Stmt} {rest : List Stmt} {Q : Flow → Shared → Prop} (h : wpAny M A (exec st env) (fun f s' => match f with | .next => wpC M A (execs rest env) Q E s' | f => Q f s') E s) : wpC M A (execs (st :: rest) env) Q E s := execsC_cons (wpC_of h)
theorem assignC {x : Str} {pos' pos : Pos} {value : PySem.Expr} {Q : Flow → Shared → Prop} (h : wpC M A (eval value env) (fun v s₁ => wpAny M A (storeName env x v) (fun _ => Q .next) E s₁) E s)
    (hs : swapsWith value (some (.Name x pos')) pos.line env = pure false := by rfl) : wpC M A (exec (.Assign [.Name x pos'] value pos) env) Q E s := fun Γ p d c hΓ => by
  simp only [exec_Assign_Name env x pos' value pos hs, Sem.wp_bind', Sem.wp_cmd_standAt, Sem.wp_bindName, Sem.wp_pure']
  exact Sem.wp_mono M Γ _ (fun v _ s₁ h₁ => h₁ Γ _ hΓ) (fun _ _ _ h' => h') _ _ (h Γ _ d c hΓ)
theorem callEC {func : PySem.Expr} {args : List PySem.Expr} {pos : Pos} {Q : Value → Shared → Prop} (h : wpAny M A (eval func env) (fun f s₁ => wpC M A (callWith pos f [] (backTo pos (starEach args env)) []) Q E s₁) E s)
    (he : eval (.Call func args [] pos) env = (do callWith pos (← eval func env) [] (backTo pos (starEach args env)) (backToKw pos (keywordEach [] env))) := by rfl) : wpC M A (eval (.Call func args [] pos) env) Q E s := by
  rw [he]; exact wpC_bind (wpC_of h)
theorem splicedC_nil {Q : List Value → Shared → Prop} (h : Q [] s) : wpC M A (spliced []) Q E s := wpC_pure h
theorem splicedC_cons {x : Sem Value} {rest : List (Bool × Sem Value)} {Q : List Value → Shared → Prop} (h : wpC M A x (fun v s₁ => wpC M A (spliced rest) (fun vs s₂ => Q (v :: vs) s₂) E s₁) E s) : wpC M A (spliced ((false, x) :: rest)) Q E s := by
  rw [spliced]
  refine wpC_bind (wpC_mono h (fun v s₁ h₁ => ?_) fun _ _ x => x)
  simp only [Bool.false_eq_true, if_false]
  exact wpC_bind (wpC_pure (wpC_bind (wpC_holding (wpC_mono h₁ (fun vs s₂ h₂ => wpC_pure h₂) fun _ _ x => x))))
theorem argsC_nil {pos : Pos} {Q : List Value → Shared → Prop} (h : Q [] s) : wpC M A (spliced (backTo pos (starEach [] env))) Q E s := splicedC_nil h
theorem argsC_cons {e : PySem.Expr} {rest : List PySem.Expr} {pos : Pos} {Q : List Value → Shared → Prop}
    (h : wpC M A (eval e env) (fun v s₁ => wpC M A (spliced (backTo pos (starEach rest env))) (fun vs s₂ => Q (v :: vs) s₂) E s₁) E s)
    (he : starEach (e :: rest) env = (false, eval e env) :: starEach rest env := by rfl) : wpC M A (spliced (backTo pos (starEach (e :: rest) env))) Q E s := by
  rw [he]
  refine splicedC_cons ?_
  exact h
theorem evalArgsC {f : Value} {x : Sem Value} {rest : List (Bool × Sem Value)} {Q : Args → Shared → Prop} (h : wpC M A (spliced ((false, x) :: rest)) (fun vs s' => Q ⟨vs, []⟩ s') E s) : wpC M A (evalArgs f true ((false, x) :: rest) []) Q E s := by
  unfold evalArgs
  show wpC M A (spliced ((false, x) :: rest) >>= _) Q E s
  refine wpC_bind (wpC_mono h (fun vs s' h' => ?_) fun _ _ x => x)
  refine wpC_holding ?_
  exact wpC_bind (wpC_pure (wpC_bind (wpC_pure (wpC_pure h'))))
theorem callWithC_of {P : Heap → Prop} {pos : Pos} {f : Value} {first : List Value} {args : List (Bool × Sem Value)} {keywords : List (Option Str × Sem Value)} {Q : Value → Shared → Prop} (hplain : (args.any (·.1) || keywords.any (·.1.isNone)) = false)
    (hk : ∀ h, P h → ∃ k, (k = Keeper.frame ∨ k = Keeper.machine ∨ k = Keeper.boundFrame) ∧ Looks M h (keeperOf f) k)
    (h : wpC M A (evalArgs f true args keywords) (fun a s₁ => P s₁.heap ∧ wpC M A (call f (first ++ a.pos) a.kw) Q E s₁) E s) : wpC M A (callWith pos f first args keywords) Q E s := by
  unfold callWith
  refine wpC_bind (wpC_holding (wpC_mono h (fun a s₁ h₁ => wpC_bind (wpC_of (wpAny_standAt ?_))) fun _ _ x => x))
  obtain ⟨k, hk', L⟩ := hk _ h₁.1
  simp only [hplain]
  refine wpC_bind (wpC_of (L.here ?_))
  have tail : ∀ {t : Sem Value}, wpC M A t Q E s₁ → wpC M A (t >>= fun r => holding [r] point >>= fun _ => pure r) Q E s₁ :=
    fun ht => wpC_bind (wpC_mono ht (fun r s₂ hr => wpC_of (wpAny_bind (wpAny_holding (wpAny_point (wpAny_pure hr))))) fun _ _ x => x)
  have marked (mk : Value) : wpC M A (callMarked mk f (first ++ a.pos) a.kw) Q E s₁ := by unfold callMarked; exact wpC_keep h₁.2
  rcases hk' with rfl | rfl | rfl <;> dsimp only <;> first | exact tail h₁.2 | (split <;> first | exact tail h₁.2 | exact tail (marked _))
end
section
variable {prog : Program} {w : World} {A A₀ : Around} {E : Value → Shared → Prop} {s : Shared} {env : Env} {K : Frag} {f : Value}
theorem callWithC_K {h₀ : Heap} {pos : Pos} {e : PySem.Expr} {rest : List PySem.Expr} {Q : Value → Shared → Prop} (_X : K.In h₀) (hk : keepIn K f = true) (h : wpC (model prog w) A (spliced (backTo pos (starEach (e :: rest) env))) (fun vs s₁ => K.In s₁.heap ∧ wpC (model prog w) A (call f vs) Q E s₁) E s)
    (he : starEach (e :: rest) env = (false, eval e env) :: starEach rest env := by rfl) (hplain : (backTo pos (starEach rest env)).any (·.1) = false := by rfl) :
    wpC (model prog w) A (callWith pos f [] (backTo pos (starEach (e :: rest) env)) []) Q E s := by
  rw [he] at h ⊢
  exact callWithC_of (by show ((false || (backTo pos (starEach rest env)).any (·.1)) || false) = false; rw [hplain]; rfl) (keeps_K hk) (evalArgsC h)
theorem callWithC_type {M : Model} {pos : Pos} {T : String} {e : PySem.Expr} {rest : List PySem.Expr} {Q : Value → Shared → Prop} (h : wpC M A (spliced (backTo pos (starEach (e :: rest) env))) (fun vs s₁ => wpC M A (call (.type T) vs) Q E s₁) E s)
    (he : starEach (e :: rest) env = (false, eval e env) :: starEach rest env := by rfl) (hplain : (backTo pos (starEach rest env)).any (·.1) = false := by rfl) :
    wpC M A (callWith pos (.type T) [] (backTo pos (starEach (e :: rest) env)) []) Q E s := by
  rw [he] at h ⊢
  exact callWithC_of (P := fun _ => True) (by show ((false || (backTo pos (starEach rest env)).any (·.1)) || false) = false; rw [hplain]; rfl) (fun _ _ => ⟨_, .inr (.inl rfl), Looks.of_pure rfl⟩) (evalArgsC (wpC_mono h (fun _ _ x => ⟨trivial, x⟩) fun _ _ x => x))
theorem callWithC_builtin {M : Model} {pos : Pos} {id : String} {e : PySem.Expr} {rest : List PySem.Expr} {Q : Value → Shared → Prop} (h : wpC M A (spliced (backTo pos (starEach (e :: rest) env))) (fun vs s₁ => wpC M A (call (.builtin id) vs) Q E s₁) E s)
    (he : starEach (e :: rest) env = (false, eval e env) :: starEach rest env := by rfl) (hplain : (backTo pos (starEach rest env)).any (·.1) = false := by rfl) :
    wpC M A (callWith pos (.builtin id) [] (backTo pos (starEach (e :: rest) env)) []) Q E s := by
  rw [he] at h ⊢
  exact callWithC_of (P := fun _ => True) (by show ((false || (backTo pos (starEach rest env)).any (·.1)) || false) = false; rw [hplain]; rfl) (fun _ _ => ⟨_, .inr (.inl rfl), Looks.of_pure rfl⟩) (evalArgsC (wpC_mono h (fun _ _ x => ⟨trivial, x⟩) fun _ _ x => x))
theorem codeC_func {body : List Stmt} {R : Result → Shared → Prop}
    (h : wpC (model prog w) (A.deeper env) (execs body env) (fun f s' => R (.ok (.ret (match f with | .ret v => v | _ => .none))) s')
      (fun e s' => wpAny (model prog w) (A.deeper env) (leaving env e) (fun _ s'' => R (.error e) s'') (fun e' s'' => R (.error e') s'') s') s) :
    codeC (model prog w) A (.func body env) R s := by
  refine codeC_of_tree rfl ?_
  show wpC _ (A.deeper env) (do point; match ← (execs body env).onRaise (leaving env) with | .ret v => ret v | _ => ret .none) _ _ s
  refine wpC_bind (wpC_of (wpAny_point (wpC_bind (wpC_onRaise (wpC_mono h (fun f s' h' => ?_) fun _ _ h' => h')))))
  cases f <;> exact wpC_pure h'
theorem codeC_call_function {a : Addr} {args : Args} {o : Obj} {fd : FuncData} {body : List Stmt} {R : Result → Shared → Prop} (hroom : A.depth < recursionLimit) (ho : s.heap.get? a = some o)
    (hd' : o.data = .func fd) (hco : fd.scope.isCoroutine = false) (hgen : fd.scope.isGenerator = false) (hbody : fd.body = .stmts body) (hcd : s.heap.CodeRec fd.code fd.qualname)
    (h : wpAny (model prog w) A.in1 (bindArgs fd args) (fun binds s₁ =>
      wpAny (model prog w) A.in1 (newFunctionEnv fd.scope fd.globals fd.closure binds (fd.qualname ++ ".<locals>.") (some a) fd.code none fd.builtins)
        (fun env s₂ => s₂.heap.NoLimit ∧ codeC (model prog w) A (.func body env) R s₂) (fun e s' => R (.error e) s') s₁) (fun e s' => R (.error e) s') s) :
    codeC (model prog w) A (.call (.ref a) args) R s := by
  refine codeC_of_tree rfl ?_
  show wpC _ A.in1 (callAny (.ref a) args) _ _ s
  simp only [callAny]
  refine wpC_of (wpAny_bind (wpAny_load ho ?_))
  obtain ⟨c, oc, vs, tq, hc, hoc, hdc, hq⟩ := hcd
  simp only [hd', callFunction, hco, hgen, hbody, hc]
  rw [hc] at h
  refine wpAny_bind (m := field (.ref c) 1) (wpAny_field hoc hdc hq (wpAny_bind (wpAny_pure ?_)))
  exact wpAny_bind (wpAny_mono h (fun binds s₁ h₁ => wpAny_bind (wpAny_mono h₁ (fun env s₂ h₂ => wpAny_bind (wpAny_enterFrame h₂.1 hroom
    (wpAny_pure (And.intro rfl h₂.2)))) fun _ _ h' => h')) fun _ _ h' => h')
end
end Mine
end

section
theorem Mine.freshCtr : True := by
  w_top off
  trivial
open PySem PySem.W PyProof.Rows
namespace Mine
/-- what a call of the def at f does, for any caller, frame and state: the ledger goes from news to news', the answer is r; D frames of room -/
def Does (D : Nat) (w : World) (f : Addr) (news : List (Addr × Obj)) (vs : List Value) (Post : Value → List (Addr × Obj) → Prop) : Prop :=
  ∀ (dp un : Nat) (gd : Option (List Code)) (cn : Str) (cs : Scope) (a : Addr) (ccd : Value) (cl : List (Str × Addr)) (outer : List Env) (A₀ : Around) (base h₀ : Heap) (L : Addr) (m : Str → Option Value) (mg mb : Str → Option Value)
    (p : Program) (loose : List Str) (mean : ExcName → Option Value) (s : Shared) (Q E : Value → Shared → Prop),
    Below A₀ base outer h₀ → Fr h₀ L s.heap m → (hd.heap_39 w.params).In h₀ → News h₀ L s.heap news → Top p loose mean mg mb h₀ → cs.kind = .function → dp + D < recursionLimit → un + 100 * D < cLine →
    (∀ r news' h' tk', Fr h₀ L h' m → News h₀ L h' news' → Post r news' → Q r { s with heap := h', toks := tk' }) →
    wpAny (model PySem.Challenge.rw_wf0009_01.row.prog w) (ktrTop dp un gd cn cs L a ccd cl outer) (call (.ref f) vs) Q E s

theorem lt_off {I : Addr} {l : List (Addr × Obj)} (h : ∀ p ∈ l, p.1 < I) : ∀ p ∈ l, p.1 ≠ I := fun p hp => Nat.ne_of_lt (h p hp)
theorem allLt_off {I : Addr} {l : List (Addr × Obj)} (h : AllLt I l) : ∀ p ∈ l, p.1 ≠ I := fun p hp => Nat.ne_of_lt (ktn_ltOf h p hp)
theorem does_use {D : Nat} {w : World} {f : Addr} {news : List (Addr × Obj)} {vs : List Value} {Post : Value → List (Addr × Obj) → Prop} (H : Does D w f news vs Post)
    {dp un : Nat} {gd : Option (List Code)} {cn : Str} {cs : Scope} {a : Addr} {ccd : Value} {cl : List (Str × Addr)} {outer : List Env} {A₀ : Around} {base h₀ : Heap} {L : Addr} {m : Str → Option Value} {mg mb : Str → Option Value}
    {p : Program} {loose : List Str} {mean : ExcName → Option Value} {s : Shared} {Q E : Value → Shared → Prop}
    (B : Below A₀ base outer h₀) (F : Fr h₀ L s.heap m) (X : (hd.heap_39 w.params).In h₀) (N : News h₀ L s.heap news) (T : Top p loose mean mg mb h₀) (hk : cs.kind = .function) (hd : dp + D < recursionLimit) (hu : un + 100 * D < cLine)
    (ret : ∀ r news' h' tk', Fr h₀ L h' m → News h₀ L h' news' → Post r news' → Q r { s with heap := h', toks := tk' }) :
    wpAny (model PySem.Challenge.rw_wf0009_01.row.prog w) (ktrTop dp un gd cn cs L a ccd cl outer) (call (.ref f) vs) Q E s :=
  H _ _ _ _ _ _ _ _ _ _ _ _ _ _ _ _ _ _ _ _ _ _ B F X N T hk hd hu ret

-- the def's body is entered
local macro_rules | `(tactic| walk_at "m_enter") => `(tactic| k_dflt (refine' code_def ?k1 ?k2 ?k3 ?k4 ?k5 ?kA ?kF ?kK ?k6 ?k7 ?k8 ?k9 ?kB ?_ ?c2 ?c3 ?c4 ?c5; (case kA => exact rfl); (case kF => exact rfl); (case kK => assumption); (case k1 => k_asm); (case k2 => k_asm); (case k3 => k_asm); (case k4 => k_asm); (case k5 => k_asm); (case k6 => k_is); (case k7 => k_is); (case k8 => ktr_room); (case k9 => (refine' kp_binds ?kx ?ke; (case kx => k_in); (case ke => exact fun _ => rfl))); (case c5 => decide); (case kB => exact locs rfl); (case c2 => exact rfl); (case c3 => exact rfl); (case c4 => exact rfl); k_whole; intro g' L' h' FG' F' N' B' X' T'; (try dsimp only); (try k_fold)))
-- steps, as far as they go
local macro_rules | `(tactic| walk_at "m_steps") => `(tactic| repeat' (first | (k_unfold; (try dsimp only)) | walk1 | (dsimp only; walk1) | (leave1; walk_say "STEP leave1"; (try dsimp only)) | fail "no step"))
-- a contract's premises at a call
local macro_rules | `(tactic| walk_at "m_use") => `(tactic| ((case k1 => k_asm); (case k2 => k_asm); (case k3 => k_asm); (case k5 => k_asm); (case kK => first | exact rfl | assumption); (case kd => ((simp only [Around.deeper, ktrTop] at *); omega)); (case ku => ((simp only [Around.deeper, ktrTop] at *); omega))))

set_option maxRecDepth 100000 in
set_option maxHeartbeats 8000000 in
theorem bisect_does (w : World) (l : Addr) (vs : List Value) (ns : List Int) (e : Nat) (x : Int) (tx : Tok) (rest : List (Addr × Obj)) (hi : IntsAre vs ns) (hn : ns.length ≤ 1000) :
    Does 2 w 39 ((l, listOf vs.toArray e) :: rest) [.ref l, .int x tx] fun r news' => ∃ t, r = .int (bis ns x : Nat) t ∧ news' = (l, listOf vs.toArray e) :: rest := by
  unfold Does
  k_fill
  intro dp un gd cn cs a ccd cl outer A₀ base h₀ L m mg mb p loose mean s Q E B F X N T hk hdp hun hret
  refine wpAny_call ?_
  walk_at "m_enter"
  k_with "state" => first | exact bis_start _ _ | exact bis_up (by assumption) (by assumption) (by assumption) (by assumption) (by assumption) (by assumption) | exact bis_down (by assumption) (by assumption) (by assumption) (by assumption) (by assumption) (by assumption)
  k_with "measure" => first | exact bis_mu (by assumption) | exact bis_md (by assumption)
  k_with "exec While Compare cons nil" => k_while_given ["a", "x"] (fun ns x script lo hi => BisInv ns x lo hi) (fun ns x script lo hi => (hi - lo).toNat) "lo" "hi"
  walk_at "m_steps"
  k_with_none
  exact hret _ _ _ _ (by k_asm) (by k_asm) ⟨_, congrArg (Value.int · _) (bis_end (by assumption) (by assumption) (by assumption) (by assumption) (by assumption)), rfl⟩
set_option maxRecDepth 100000 in
set_option maxHeartbeats 8000000 in
theorem bisect_does4 (w : World) (l : Addr) (vs : List Value) (ns : List Int) (e : Nat) (x : Int) (tx tz : Tok) (rest : List (Addr × Obj)) (hi : IntsAre vs ns) (hn : ns.length ≤ 1000) :
    Does 2 w 39 ((l, listOf vs.toArray e) :: rest) [.ref l, .int x tx, .int 0 tz, .none] fun r news' => ∃ t, r = .int (bis ns x : Nat) t ∧ news' = (l, listOf vs.toArray e) :: rest := by
  unfold Does
  k_fill
  intro dp un gd cn cs a ccd cl outer A₀ base h₀ L m mg mb p loose mean s Q E B F X N T hk hdp hun hret
  refine wpAny_call ?_
  walk_at "m_enter"
  k_with "state" => first | exact bis_start _ _ | exact bis_up (by assumption) (by assumption) (by assumption) (by assumption) (by assumption) (by assumption) | exact bis_down (by assumption) (by assumption) (by assumption) (by assumption) (by assumption) (by assumption)
  k_with "measure" => first | exact bis_mu (by assumption) | exact bis_md (by assumption)
  k_with "exec While Compare cons nil" => k_while_given ["a", "x"] (fun ns x script lo hi => BisInv ns x lo hi) (fun ns x script lo hi => (hi - lo).toNat) "lo" "hi"
  walk_at "m_steps"
  k_with_none
  exact hret _ _ _ _ (by k_asm) (by k_asm) ⟨_, congrArg (Value.int · _) (bis_end (by assumption) (by assumption) (by assumption) (by assumption) (by assumption)), rfl⟩
end Mine
end

section
open PySem PySem.W PyProof.Rows PySem.Calls
namespace Mine
section
variable {prog : Program} {w : World} {A A₀ : Around} {s : Shared} {K : Frag} {L : Addr} {h₀ base : Heap} {m mg mb : Str → Option Value} {news : List (Addr × Obj)} {p : Program} {loose : List Str} {mean : ExcName → Option Value}
theorem codeC_def {env : Env} {outer : List Env} {R : Result → Shared → Prop} {name qual : Str} {params : Arguments} {body : List Stmt} {scope : Scope} {dV kV doc pm cdv ct oc : Value} {an od : Option Addr} {osl : Array (Option Value)} {f : Addr} {args : Args} {binds : List (Str × Value)}
    (B : Below A₀ base outer h₀) (F : Fr h₀ L s.heap m) (X₀ : K.In h₀) (N : News h₀ L s.heap news) (T : Top p loose mean mg mb h₀) (hA : A.frames = some (env :: outer)) (hf : env.frame = some L) (hke : env.scope.kind = .function)
    (ho : K.lookup f = some ⟨oc, od, .func (fnOf name qual params body scope dV kV doc pm an cdv ct), osl⟩) (hcd : codeIn K cdv qual = true) (hroom : A.depth < recursionLimit)
    (hbind : BindsTo s (fnOf name qual params body scope dV kV doc pm an cdv ct) args binds) (hloc : ∀ y ∈ binds, scope.names.lookup y.1 = some .local)
    (h : ∀ g L' h₁ tk, Fr h₀ L g m → Fr g L' h₁ (fun y => binds.reverse.lookup y) → News g L' h₁ news → Below A base (env :: outer) g → K.In g → Top p loose mean mg mb g →
      wpC (model prog w) (A.deeper (envOf qual scope L' f cdv)) (execs body (envOf qual scope L' f cdv))
        (fun fl s' => LeaveK h₀ L m g R (match fl with | .ret v => v | _ => .none) s')
        (fun e s' => wpAny (model prog w) (A.deeper (envOf qual scope L' f cdv)) (leaving (envOf qual scope L' f cdv) e) (fun _ s'' => R (.error e) s'') (fun e' s'' => R (.error e') s'') s')
        { s with heap := h₁, toks := tk })
    (hco : scope.isCoroutine = false) (hgen : scope.isGenerator = false) (hk : scope.kind = .function)
    (hcell : ∀ x ∈ scope.names, x.2 ≠ .cell) : codeC (model prog w) A (.call (.ref f) args) R s := by
  obtain ⟨FG, BG, st, lv⟩ := groundX (R := R) B F N hA hf hke
  refine codeC_call_function (fd := fnOf name qual params body scope dV kV doc pm an cdv ct) (body := body) hroom ((X₀.keeps F.keep) _ _ ho) rfl hco hgen rfl (codeRec_of (X₀.keeps F.keep) hcd) (hbind _ _ _ _ ?_)
  refine wpAny_newFunctionEnv hcell hloc (fun h₁ hns hsb => ⟨(T.nolimit.keeps F.keep).fresh _ hsb, codeC_func ?_⟩) hk
  have hk₁ : ∀ b o, s.heap.get? b = some o → h₁.get? b = some o := fun b o e => hsb.extBut b o (Nat.ne_of_lt (Heap.lt_size e)) (Heap.get?_push_of_some _ e)
  exact wpC_mono (h _ s.heap.objs.size h₁ _ FG ⟨hns, fun b o e => hk₁ b o (of_hideAll _ e), Nat.le_of_eq (hideAll_size _ _)⟩
    (fun q hq => ⟨hk₁ _ _ (N q hq).1, Nat.ne_of_lt (Heap.lt_size (N q hq).1), hideAll_none _ (List.mem_map_of_mem hq)⟩) BG (X₀.keeps st) (T.keeps st)) (fun fl s' hl => lv _ _ hl) fun _ _ y => y
end
/-- Does, over clean stacks -/
def DoesC (D : Nat) (w : World) (f : Addr) (news : List (Addr × Obj)) (vs : List Value) (Post : Value → List (Addr × Obj) → Prop) : Prop :=
  ∀ (dp un : Nat) (gd : Option (List Code)) (cn : Str) (cs : Scope) (a : Addr) (ccd : Value) (cl : List (Str × Addr)) (outer : List Env) (A₀ : Around) (base h₀ : Heap) (L : Addr) (m : Str → Option Value) (mg mb : Str → Option Value)
    (p : Program) (loose : List Str) (mean : ExcName → Option Value) (s : Shared) (Q E : Value → Shared → Prop),
    Below A₀ base outer h₀ → Fr h₀ L s.heap m → (hd.heap_39 w.params).In h₀ → News h₀ L s.heap news → Top p loose mean mg mb h₀ → cs.kind = .function → dp + D < recursionLimit → un + 100 * D < cLine →
    (∀ r news' h' tk', Fr h₀ L h' m → News h₀ L h' news' → Post r news' → Q r { s with heap := h', toks := tk' }) →
    wpC (model PySem.Challenge.rw_wf0009_01.row.prog w) (ktrTop dp un gd cn cs L a ccd cl outer) (call (.ref f) vs) Q E s
theorem doesC_use {D : Nat} {w : World} {f : Addr} {news : List (Addr × Obj)} {vs : List Value} {Post : Value → List (Addr × Obj) → Prop} (H : DoesC D w f news vs Post)
    {dp un : Nat} {gd : Option (List Code)} {cn : Str} {cs : Scope} {a : Addr} {ccd : Value} {cl : List (Str × Addr)} {outer : List Env} {A₀ : Around} {base h₀ : Heap} {L : Addr} {m : Str → Option Value} {mg mb : Str → Option Value}
    {p : Program} {loose : List Str} {mean : ExcName → Option Value} {s : Shared} {Q E : Value → Shared → Prop}
    (B : Below A₀ base outer h₀) (F : Fr h₀ L s.heap m) (X : (hd.heap_39 w.params).In h₀) (N : News h₀ L s.heap news) (T : Top p loose mean mg mb h₀) (hk : cs.kind = .function) (hd : dp + D < recursionLimit) (hu : un + 100 * D < cLine)
    (ret : ∀ r news' h' tk', Fr h₀ L h' m → News h₀ L h' news' → Post r news' → Q r { s with heap := h', toks := tk' }) :
    wpC (model PySem.Challenge.rw_wf0009_01.row.prog w) (ktrTop dp un gd cn cs L a ccd cl outer) (call (.ref f) vs) Q E s :=
  H _ _ _ _ _ _ _ _ _ _ _ _ _ _ _ _ _ _ _ _ _ _ B F X N T hk hd hu ret
end Mine
end

section
open PySem PySem.W PyProof.Rows PySem.Calls
namespace Mine
theorem enterC {M : Model} {A : Around} {s : Shared} {f : Value} {pos : List Value} {kw : List (Str × Value)} {c : ClaimW} {cl : Str → Option Addr} {mean : ExcName → Option Value} {args : List WData} {s₁ : Shared}
    (h : codeC M A (.call f ⟨pos, kw⟩) (GoodWG c cl mean args s₁) s) : wpC M A (PySem.call f pos kw) (fun v s' => GoodWG c cl mean args s₁ (.ok (.ret v)) s') (fun e s' => GoodWG c cl mean args s₁ (.error e) s') s :=
  wpC_call (codeC_mono h fun res s' g => by rcases g.1 with ⟨v, _, _, rfl, _⟩ | ⟨e, _, _, rfl, _⟩ <;> exact g)
theorem callC_cellsN {prog : Program} {w : World} {A : Around} {R : Result → Shared → Prop} {s : Shared} {name : Str} {params : Arguments} {body : List Stmt} {scope : Scope}
    {pm cd doc : Value} {a : Addr} {o : Obj} {args : List Value} {binds : List (Str × Value)}
    (hroom : A.depth < recursionLimit) (ho : s.heap.get? a = some o) (hdata : o.data = .func (Calls.docDef name params body scope pm cd doc)) (hlim : s.heap.NoLimit) (hcd : s.heap.CodeRec cd name)
    (hbind : bindArgs (Calls.docDef name params body scope pm cd doc) ⟨args, []⟩ = pure binds)
    (hkind : ∀ x ∈ binds, scope.names.lookup x.1 = some .local ∨ (scope.names.lookup x.1 = some .cell ∧ ((cellsFrom (s.heap.objs.size + 1) scope.names []).lookup x.1).isSome = true))
    (hnd : ((cellsFrom 0 scope.names []).map (·.1)).Nodup)
    (h : ∀ h₁ tk cells, Fr s.heap s.heap.objs.size h₁ (bindL (envOfC name scope s.heap.objs.size a cd).kindOf binds fun _ => none) → News s.heap s.heap.objs.size h₁ cells →
      CellsAre (bindC (envOfC name scope s.heap.objs.size a cd).kindOf binds fun _ => none) (cellsFrom (s.heap.objs.size + 1) scope.names []) cells →
      wpC (model prog w) (A.deeper (envOfC name scope s.heap.objs.size a cd)) (execs body (envOfC name scope s.heap.objs.size a cd))
        (fun f s' => R (.ok (.ret (match f with | .ret v => v | _ => .none))) s')
        (fun e s' => wpAny (model prog w) (A.deeper (envOfC name scope s.heap.objs.size a cd)) (leaving (envOfC name scope s.heap.objs.size a cd) e)
          (fun _ s'' => R (.error e) s'') (fun e' s'' => R (.error e') s'') s')
        { s with heap := h₁, toks := tk })
    (hco : scope.isCoroutine = false := by rfl) (hgen : scope.isGenerator = false := by rfl) (hk : scope.kind = .function := by rfl) :
    codeC (model prog w) A (.call (.ref a) ⟨args, []⟩) R s := by
  refine codeC_call_function (fd := Calls.docDef name params body scope pm cd doc) (body := body) hroom ho hdata hco hgen rfl hcd ?_
  rw [hbind]
  refine wpAny_pure (wpAny_newFunctionEnv_cells hk hkind fun env he s' x => ?_)
  subst he
  refine ⟨hlim.keeps x.toInCall.keep, codeC_func ?_⟩
  obtain ⟨h₁, tk, rfl, _⟩ := x.done
  obtain ⟨cells, N, Y⟩ := Cl.news (h₀ := s.heap) (Nat.le_refl _) fun n c hm => ⟨x.cell n c (lookup_of_mem_nodup (cellsFrom_names scope.names 0 (s.heap.objs.size + 1) [] [] rfl ▸ hnd) hm), x.above n c hm⟩
  exact h h₁ tk cells ⟨x.toInCall.ns, x.toInCall.keep, x.toInCall.fresh⟩ N Y
end Mine
end

section
open PySem PySem.W PyProof.Rows PySem.Calls
set_option maxRecDepth 100000
namespace Mine
theorem ba_mro : mroOf (.type "bytearray") = pure [.type "bytearray", .type "object"] := by rw [mroOf_type]; kernel_rfl
theorem ba_lookup_new : typeLookup (.type "bytearray") "__new__" = pure (some (.builtin "bytearray.__new__")) := by rw [typeLookup_type, builtinLookup_eq_fast]; kernel_rfl
theorem ba_slot_init : Slot "bytearray" "__init__" "bytearray.__init__" :=
  .of (owner := "bytearray") (n := "__init__") (by rw [typeLookup_type, builtinLookup_eq_fast]; kernel_rfl) (by decide +kernel) (by decide +kernel) (by decide +kernel)
    (by first | exact .inl (by decide +kernel) | exact .inr (by decide +kernel)) (by rw [isSubtype_type]; kernel_rfl)
theorem ba_sub : isSubtype (.type "bytearray") (.type "bytearray") = pure true := by rw [isSubtype_type]; kernel_rfl
theorem ba_called : TypeCalled "bytearray" "bytearray.__new__" "bytearray.__init__" :=
  ⟨by decide +kernel, by decide +kernel, ⟨_, _, ba_mro⟩, madeBy_type ba_mro ba_lookup_new (by decide +kernel), by decide +kernel, ba_sub, ba_slot_init⟩
theorem ba_typeCall (a : Value) : checkTypeCall "bytearray" ⟨[a], []⟩ = pure () := by kernel_rfl
theorem ba_newCall (a : Value) : checkBuiltinCall "bytearray.__new__" ⟨[.type "bytearray", a], []⟩ = pure () := by kernel_rfl
theorem ba_plain_new : plainId "bytearray.__new__" = true := by decide +kernel
theorem ba_plain_init : plainId "bytearray.__init__" = true := by decide +kernel
theorem ba_entry_new : entryFor table "bytearray.__new__" = some Builtin.«list.__new__» := entryFor_alias (id' := "list.__new__") (by rw [fastTable_eq_tree]; kernel_rfl) (by decide +kernel) (by decide +kernel) (by rw [fastTable_eq_tree]; kernel_rfl)
theorem ba_entry_init : entryFor table "bytearray.__init__" = some Builtin.«bytearray.__init__» := entryFor_of_tree (by kernel_rfl)
set_option maxHeartbeats 4000000 in
theorem ba_owner : ("bytearray.__new__".splitOn ".__new__").headD "" = "bytearray" := by simp +decide [String.splitOn, String.splitOnAux]
section
variable {prog : Program} {w : World} {A : Around} {E : Value → Shared → Prop} {s : Shared}
theorem ba_new (a : Value) {Q₁ : Value → Shared → Prop} (h : Q₁ (.ref s.heap.objs.size) { s with heap := s.heap.push { cls := .type "bytearray", data := .bytearray #[] } }) :
    codeAny (model prog w) A (.call (.builtin "bytearray.__new__") ⟨[.type "bytearray", a], []⟩) (wants Q₁ E) s := by
  refine codeAny_of_tree ?_
  show wpAny _ A.in1 (do checkBuiltinCall "bytearray.__new__" ⟨[.type "bytearray", a], []⟩; again (.builtin "bytearray.__new__" ⟨[.type "bytearray", a], []⟩)) _ _ s
  refine wpAny_bind (wpAny_of_eq (ba_newCall a) (wpAny_pure ⟨plainId_quiet ba_plain_new _, codeAny_builtin_stack ba_entry_new rfl fun p st => ?_⟩))
  rw [Around.under_plainId ba_plain_new _]
  have hsub := ba_sub
  have hown := ba_owner
  obtain ⟨hp, g, d, tk, os⟩ := s
  simp only [hown]
  wp_walk
  exact h
end
end Mine
end

section
open PySem PySem.W PyProof.Rows PySem.Calls
set_option maxRecDepth 100000
namespace Mine
section
variable {prog : Program} {w : World} {A : Around} {E : Value → Shared → Prop} {s : Shared}
theorem codeC_builtin {id : String} {args : Args} {b : Builtin} {R : Result → Shared → Prop} (hd : dirty (.builtin id args) = false) (hb : entryFor table id = some b)
    (h : wpC (model prog w) (A.under (.builtin id args)) (b args)
      (fun fin s' => match fin with | .done f => R (.ok f) s' | .again c' => c'.quiet = true ∧ codeC (model prog w) A c' R s') (fun e s' => R (.error e) s') s) :
    codeC (model prog w) A (.builtin id args) R s := by
  refine codeC_of_tree hd ?_
  show wpC _ _ (match entryFor table id with | some b => b args | none => unsupported ((withoutEnding? id "#data").getD id)) _ _ s
  rw [hb]; exact h
theorem callSpecialC {M : Model} {self : Value} {T : String} {name : Str} {id : String} {args : List Value} {kw : List (Str × Value)} {Q : Option Value → Shared → Prop} (hT : s.TypeIs self T) (h : Slot T name id)
    (hc : wpC M A (call (.builtin id) (self :: args) kw) (fun v => Q (some v)) E s) : wpC M A (callSpecial? self name args kw) Q E s := by
  simp only [callSpecial?]
  refine wpC_bind (wpC_of (wpAny_specialOf hT h.lookup ?_))
  simp only [h.bind]
  exact wpC_holding (wpC_bind (wpC_pure (wpC_bind (wpC_mono hc (fun v s' h' => wpC_pure h') fun _ _ h' => h'))))
theorem wpC_if_neg {α : Type} {M : Model} {c : Prop} [Decidable c] {a b : Sem α} {Q : α → Shared → Prop} (hc : ¬ c) (h : wpC M A b Q E s) : wpC M A (if c then a else b) Q E s := by rw [if_neg hc]; exact h
theorem wpC_if_pos {α : Type} {M : Model} {c : Prop} [Decidable c] {a b : Sem α} {Q : α → Shared → Prop} (hc : c) (h : wpC M A a Q E s) : wpC M A (if c then a else b) Q E s := by rw [if_pos hc]; exact h
/-- a type's call, its __init__ over clean stacks -/
theorem typeCallC {T newId initId : String} {args : List Value} {Q Q₁ : Value → Shared → Prop} (ft : TypeCalled T newId initId) (hct : checkTypeCall T ⟨args, []⟩ = pure ())
    (hnew : codeAny (model prog w) A.in1 (.call (.builtin newId) ⟨.type T :: args, []⟩) (wants Q₁ E) s)
    (hnext : ∀ obj s₁, Q₁ obj s₁ → s₁.TypeIs obj T ∧ codeC (model prog w) A.in1 (.call (.builtin initId) ⟨obj :: args, []⟩) (wants (fun r s₂ => r = .none ∧ Q obj s₂) E) s₁) :
    wpC (model prog w) A (call (.type T) args) Q E s := by
  obtain ⟨c, tl, hmro⟩ := ft.mro
  refine wpC_call (codeC_of_tree rfl ?_)
  show wpC _ _ (callAny (.type T) _) _ _ _
  refine wpC_pure ⟨Code.quiet_builtin _ (by decide +kernel), codeC_builtin (by show dirtyIds.contains "type.__call__" = false; decide) F.entry_type_call ?_⟩
  rw [Around.under_plain (weight_type_call_type T args []) rfl]
  unfold Builtin.«type.__call__»
  simp only [ft.notType, Bool.false_eq_true, if_false, ft.canCreate]
  refine wpC_bind (wpC_of (wpAny_of_eq hct ?_))
  refine wpC_bind (wpC_of (wpAny_of_eq hmro ?_))
  refine wpC_if_neg (by simp) ?_
  refine wpC_bind (wpC_of (wpAny_of_eq ft.made ?_))
  dsimp only
  refine wpC_bind (wpC_pure ?_)
  refine wpC_bind (wpC_of (wpAny_holding (wpAny_call (codeAny_mono hnew fun r s₁ hr => ?_))))
  cases r with
  | error e => exact hr
  | ok fl =>
    cases fl with
    | ret obj =>
      obtain ⟨hT, hin⟩ := hnext _ _ hr
      dsimp only
      refine wpC_bind (wpC_of (wpAny_isInstance hT ft.sub ?_))
      refine wpC_if_neg (by decide) ?_
      refine wpC_bind (wpC_holding (callSpecialC hT ft.init (wpC_call (codeC_mono hin fun r₂ s₂ hr₂ => ?_))))
      cases r₂ with
      | error e => exact hr₂
      | ok fl₂ =>
        cases fl₂ with
        | ret r =>
          obtain ⟨rfl, hq⟩ := hr₂
          dsimp only
          refine wpC_if_neg (by decide) ?_
          exact wpC_pure hq
        | _ => exact hr₂.elim
    | _ => exact hr.elim
end
end Mine
end

section
open PySem PySem.W PyProof.Rows PySem.Calls
set_option maxRecDepth 100000
namespace Mine
section
variable {prog : Program} {w : World} {A : Around} {E : Value → Shared → Prop} {s : Shared}
abbrev baObj (b : Array UInt8) : Obj := { cls := .type "bytearray", data := .bytearray b }
theorem ba_sig : Manifest.owners.lookup (String.ofList "bytearray".toList.reverse.reverse) = some Manifest.sig_bytearray := by kernel_rfl
theorem ba_args (a b : Value) : argsOk "bytearray.__init__" ⟨[a, b], []⟩ := by
  unfold argsOk
  rw [signature?_of (id := "bytearray.__init__") (n := ['_', '_', 't', 'i', 'n', 'i', '_', '_']) (o := ['y', 'a', 'r', 'r', 'a', 'e', 't', 'y', 'b']) (by kernel_rfl) ba_sig]
  kernel_rfl
theorem ba_lookup_release : typeLookup (.type "bytearray") "__release_buffer__" = pure (some (.builtin "bytearray.__release_buffer__")) := by rw [typeLookup_type, builtinLookup_eq_fast]; kernel_rfl
theorem ba_release {M : Model} {S : Addr} {Q : Bool → Shared → Prop} (hT : s.TypeIs (.ref S) "bytearray") (h : Q false s) : wpAny M A (Builtin.Bytes.ownRelease (.ref S)) Q E s := by
  unfold Builtin.Bytes.ownRelease Builtin.Bytes.slotIsOwn
  refine wpAny_bind (wpAny_bind (wpAny_specialOf hT ba_lookup_release ?_))
  dsimp only
  have e1 : ("bytearray.__release_buffer__".endsWith ("." ++ "__release_buffer__")) = true := by decide +kernel
  have e2 : ("bytearray.__release_buffer__".dropRight ("__release_buffer__".length + 1)) = "bytearray" := by decide +kernel
  rw [e1, e2]
  refine wpAny_ite ?_
  rw [if_neg (by decide)]
  refine wpAny_isInstance hT ba_sub ?_
  exact wpAny_pure h
theorem ba_bind (v : Value) : Builtin.Bytes.bindOptional "bytearray.__init__" "bytearray" ["source", "encoding", "errors"] [v] [] = pure [some v, none, none] := by kernel_rfl
theorem ba_write {M : Model} {S : Addr} {b : Array UInt8} {f : Array UInt8 → Array UInt8} {Q : Unit → Shared → Prop} (hS : s.heap.get? S = some (baObj b)) (hz : (f b).size ≤ sizeLine)
    (h : ∀ h', Heap.SameBut S s.heap h' → h'.get? S = some (baObj (f b)) → Q () { s with heap := h' }) : wpAny M A (Builtin.Bytes.write (.ref S) f) Q E s := by
  show wpAny M A (updateBytearray S f) Q E s
  unfold updateBytearray
  refine wpAny_bind (wpAny_load hS ?_)
  show wpAny _ _ (update S (Obj.mapBytearray f) >>= fun _ => lookBehind S) _ _ _
  refine wpAny_bind (wpAny_update hS ?_)
  have hS₂ : (s.heap.update S (Obj.mapBytearray f)).get? S = some (baObj (f b)) := Heap.get?_update_self (Obj.mapBytearray f) hS rfl
  refine wpAny_lookBehind hS₂ ?_ (h _ (Heap.SameBut.update ..) hS₂)
  show (if (f b).size > sizeLine then some "bytearray:memory" else none) = none
  rw [if_neg (Nat.not_lt.mpr hz)]
theorem ba_small {n : Int} (h : n ≤ 1000) : n.toNat ≤ sizeLine := by
  have e : sizeLine = 16777216 := by decide
  rw [e]; omega
theorem ba_init {S : Addr} {n : Int} {t : Tok} {R : Result → Shared → Prop} (hS : s.heap.get? S = some (baObj #[])) (h0 : 0 ≤ n) (h1 : n ≤ 1000)
    (hR : ∀ h', Heap.SameBut S s.heap h' → h'.get? S = some (baObj (Array.replicate n.toNat 0)) → R (.ok (.ret .none)) { s with heap := h' }) :
    codeC (model prog w) A (.call (.builtin "bytearray.__init__") ⟨[.ref S, .int n t], []⟩) R s := by
  have hT : s.TypeIs (.ref S) "bytearray" := ⟨_, hS, rfl⟩
  refine codeC_of_tree rfl ?_
  show wpC _ _ (do checkBuiltinCall "bytearray.__init__" ⟨[.ref S, .int n t], []⟩; again (.builtin "bytearray.__init__" ⟨[.ref S, .int n t], []⟩)) _ _ s
  refine wpC_bind (wpC_of ?_)
  refine ba_slot_init.check _ _ _ _ _ _ _ _ hT (ba_args _ _) ?_
  refine wpC_pure ⟨plainId_quiet ba_plain_init _, codeC_builtin (by show dirtyIds.contains "bytearray.__init__" = false; decide) ba_entry_init ?_⟩
  rw [Around.under_plainId ba_plain_init _]
  unfold Builtin.«bytearray.__init__»
  dsimp only
  refine wpC_bind (wpC_of (ba_release hT ?_))
  refine wpC_if_neg (by decide) ?_
  refine wpC_bind (wpC_of (wpAny_of_eq (ba_bind _) ?_))
  dsimp only
  refine wpC_bind (wpC_of (wpAny_of_eq (a := ()) rfl ?_))
  refine wpC_bind (wpC_of (wpAny_of_eq (a := ()) rfl ?_))
  refine wpC_bind ?_
  refine wpC_bind (wpC_exported ?_)
  refine wpC_of ?_
  show wpAny _ _ (do let k ← Builtin.Bytes.exportsOf (Value.ref S); pure (decide (k > 0))) _ _ _
  refine wpAny_bind ?_
  unfold Builtin.Bytes.exportsOf
  refine wpAny_bind (wpAny_load hS (wpAny_pure (wpAny_pure ?_)))
  refine wpC_of ?_
  rw [if_neg (by decide)]
  refine wpAny_bind (ba_write hS (Nat.zero_le _) fun g hg hgS => ?_)
  refine wpAny_bind (wpAny_of_eq (a := none) rfl ?_)
  rw [if_neg (by decide)]
  refine wpAny_bind (wpAny_of_eq (a := ()) rfl ?_)
  refine wpAny_bind (wpAny_specialOf (typeIs_int _ _ _) PySem.F.slot_int_index.lookup ?_)
  rw [if_pos (by rfl)]
  refine wpAny_bind (wpAny_of_eq (a := Except.ok n) rfl ?_)
  dsimp only
  have hfit : Builtin.Bytes.fitsIndex n = true := by
    unfold Builtin.Bytes.fitsIndex
    simp only [Bool.and_eq_true, decide_eq_true_eq]; omega
  have hmax : (n == 2 ^ 63 - 1) = false := by rw [beq_eq_false_iff_ne]; omega
  have hlong : Builtin.Bytes.tooLong n.toNat = false := by
    unfold Builtin.Bytes.tooLong
    rw [decide_eq_false_iff_not]
    exact Nat.not_lt.mpr (ba_small h1)
  rw [hfit, hmax, hlong, if_neg (by decide), if_neg (by omega), if_neg (by decide), if_neg (by decide)]
  refine wpAny_bind (wpAny_rule ?_)
  by_cases hn : n > 0
  · rw [if_pos hn]
    refine wpAny_bind (ba_write hgS (by rw [Array.size_replicate]; exact ba_small h1) fun g2 hg2 hgS2 => ?_)
    exact wpAny_pure (hR g2 (hg.trans hg2) hgS2)
  · rw [if_neg hn]
    have : n.toNat = 0 := by omega
    exact wpAny_pure (hR g hg (by rw [this]; exact hgS))
/-- bytearray(n) -/
theorem ba_make {h₀ : Heap} {L : Addr} {m : Str → Option Value} {news : List (Addr × Obj)} {n : Int} {t : Tok} {Q : Value → Shared → Prop} (F : Fr h₀ L s.heap m) (N : News h₀ L s.heap news) (h0 : 0 ≤ n) (h1 : n ≤ 1000)
    (h : ∀ D h', Fr h₀ L h' m → News h₀ L h' ((D, baObj (Array.replicate n.toNat 0)) :: news) → (∀ p ∈ news, p.1 < D) → Q (.ref D) { s with heap := h' }) : wpC (model prog w) A (call (.type "bytearray") [.int n t]) Q E s := by
  refine typeCallC (Q₁ := fun obj s₁ => obj = .ref s.heap.objs.size ∧ s₁ = { s with heap := s.heap.push (baObj #[]) }) ba_called (ba_typeCall _) (ba_new _ ⟨rfl, rfl⟩) fun obj s₁ h₁ => ?_
  obtain ⟨rfl, rfl⟩ := h₁
  have F₁ := F.push (baObj #[])
  have N₁ := News.push F N (baObj #[]) rfl
  have hS := (N₁ _ (.head _)).1
  have hz := N₁ _ (.head _)
  have hl : ∀ p ∈ news, p.1 < s.heap.objs.size := fun p hp => Heap.lt_size (N p hp).1
  refine ⟨⟨_, hS, rfl⟩, ba_init hS h0 h1 fun h' hs hS' => ⟨rfl, ?_⟩⟩
  exact h _ h' (F₁.change hs hz.2.1 hz.2.2) (News.setAt (own := []) N₁ (fun _ hp => nomatch hp) (fun p hp => Nat.ne_of_lt (hl p hp)) hs hS') hl
end
end Mine
end

section
open PySem PySem.W PyProof.Rows PySem.Calls
set_option maxRecDepth 100000
namespace Mine
theorem ba_slot_set : Slot "bytearray" "__setitem__" "bytearray.__setitem__" :=
  .of (owner := "bytearray") (n := "__setitem__") (by rw [typeLookup_type, builtinLookup_eq_fast]; kernel_rfl) (by decide +kernel) (by decide +kernel) (by decide +kernel)
    (by first | exact .inl (by decide +kernel) | exact .inr (by decide +kernel)) (by rw [isSubtype_type]; kernel_rfl)
theorem ba_entry_set : entryFor table "bytearray.__setitem__" = some Builtin.«bytearray.__setitem__» := entryFor_of_tree (by kernel_rfl)
theorem ba_args_set (a b c : Value) : argsOk "bytearray.__setitem__" ⟨[a, b, c], []⟩ := by
  unfold argsOk
  rw [signature?_of (id := "bytearray.__setitem__") (n := ['_', '_', 'm', 'e', 't', 'i', 't', 'e', 's', '_', '_']) (o := ['y', 'a', 'r', 'r', 'a', 'e', 't', 'y', 'b']) (by kernel_rfl) ba_sig]
  kernel_rfl
section
variable {prog : Program} {w : World} {A : Around} {E : Value → Shared → Prop} {s : Shared}
theorem small_size {n : Nat} (h : n ≤ 1000) : n ≤ sizeLine := by
  have e : sizeLine = 16777216 := by decide
  rw [e]; omega
theorem ba_fits {k : Int} (h0 : 0 ≤ k) (h1 : k ≤ 1000) : Builtin.Bytes.fitsIndex k = true := by
  unfold Builtin.Bytes.fitsIndex
  simp only [Bool.and_eq_true, decide_eq_true_eq]; omega
theorem ba_subscript {M : Model} {k : Int} {t : Tok} {Q : Option Int → Shared → Prop} (h0 : 0 ≤ k) (h1 : k ≤ 1000) (h : Q (some k) s) : wpAny M A (Builtin.Bytes.subscript? (.int k t)) Q E s := by
  unfold Builtin.Bytes.subscript?
  refine wpAny_bind (wpAny_specialOf (typeIs_int _ _ _) PySem.F.slot_int_index.lookup ?_)
  rw [if_neg (by decide)]
  refine wpAny_bind (wpAny_of_eq (a := k) rfl ?_)
  rw [ba_fits h0 h1, if_neg (by decide)]
  exact wpAny_pure h
/-- b[k] = x of a bytearray on the ledger -/
theorem ba_set {h₀ : Heap} {L S : Addr} {m : Str → Option Value} {news news' : List (Addr × Obj)} {b : Array UInt8} {k x : Int} {t u : Tok} {Q : Unit → Shared → Prop} (F : Fr h₀ L s.heap m) (N : News h₀ L s.heap news)
    (U : Upd S (baObj b) (baObj (b.setIfInBounds k.toNat x.toNat.toUInt8)) news news') (h0 : 0 ≤ k) (hk : k < b.size) (hz : b.size ≤ 1000) (hx0 : 0 ≤ x) (hx1 : x < 256)
    (h : ∀ h', Fr h₀ L h' m → News h₀ L h' news' → Q () { s with heap := h' }) : wpAny (model prog w) A (setItem (.ref S) (.int k t) (.int x u)) Q E s := by
  obtain ⟨pre, post, rfl, rfl, a, c⟩ := U.split
  have z := N (S, baObj b) (List.mem_append.mpr (.inr (.head _)))
  have hT : s.TypeIs (.ref S) "bytearray" := ⟨_, z.1, rfl⟩
  unfold setItem
  refine wpAny_holding ?_
  refine wpAny_bind (wpAny_sequenceKey hT (by decide) ?_)
  refine wpAny_bind (wpAny_callSpecial?_slot (name := Str.ofString "__setitem__") hT ba_slot_set (wpAny_call_entry ba_slot_set hT ba_entry_set ?_ (ba_args_set _ _ _)))
  unfold Builtin.«bytearray.__setitem__»
  dsimp only
  rw [if_neg (by decide)]
  refine wpAny_bind (ba_subscript h0 (by omega) ?_)
  dsimp only
  refine wpAny_bind ?_
  unfold Builtin.Bytes.byteValue
  refine wpAny_bind (wpAny_of_eq (a := x) rfl ?_)
  rw [if_neg (by simp only [Bool.or_eq_true, decide_eq_true_eq]; omega)]
  refine wpAny_pure ?_
  refine wpAny_bind ?_
  unfold Builtin.Bytes.payload Builtin.Bytes.payload?
  refine wpAny_bind (wpAny_bind (wpAny_load z.1 (wpAny_pure (wpAny_pure ?_))))
  have hi : seqIndex? k b.size = some k.toNat := by
    unfold seqIndex?
    rw [if_neg (show ¬ k < 0 by omega)]
    dsimp only
    rw [if_pos (by simp only [Bool.and_eq_true, decide_eq_true_eq]; omega)]
  rw [hi]
  dsimp only
  refine wpAny_bind (ba_write z.1 (by rw [Array.size_setIfInBounds]; exact small_size hz) fun h' hs hS' => ?_)
  exact wpAny_pure ⟨_, rfl, wpAny_pure (h h' (F.change hs z.2.1 z.2.2) (News.setAt N a c hs hS'))⟩
end
end Mine
end

section
open PySem PySem.W PyProof.Rows PySem.Calls
set_option maxRecDepth 100000
namespace Mine
theorem ba_no_bytes : typeLookup (.type "bytearray") "__bytes__" = pure none := by rw [typeLookup_type, builtinLookup_eq_fast]; kernel_rfl
theorem ba_no_index : typeLookup (.type "bytearray") "__index__" = pure none := by rw [typeLookup_type, builtinLookup_eq_fast]; kernel_rfl
theorem ba_buffer : typeLookup (.type "bytearray") "__buffer__" = pure (some (.builtin "bytearray.__buffer__")) := by rw [typeLookup_type, builtinLookup_eq_fast]; kernel_rfl
section
variable {prog : Program} {w : World} {A : Around} {E : Value → Shared → Prop} {s : Shared}
theorem ba_ownBuffer {M : Model} {S : Addr} {Q : Bool → Shared → Prop} (hT : s.TypeIs (.ref S) "bytearray") (h : Q true s) : wpAny M A (Builtin.Bytes.slotIsOwn (.ref S) "__buffer__") Q E s := by
  unfold Builtin.Bytes.slotIsOwn
  refine wpAny_bind (wpAny_specialOf hT ba_buffer ?_)
  dsimp only
  have e1 : ("bytearray.__buffer__".endsWith ("." ++ "__buffer__")) = true := by decide +kernel
  have e2 : ("bytearray.__buffer__".dropRight ("__buffer__".length + 1)) = "bytearray" := by decide +kernel
  rw [e1, e2]
  refine wpAny_ite ?_
  rw [if_neg (by decide)]
  exact wpAny_isInstance hT ba_sub h
theorem ba_bytes_new {S : Addr} {b : Array UInt8} {R : Result → Shared → Prop} (hS : s.heap.get? S = some (baObj b)) (hz : b.size ≤ 1000) (hR : ∀ t k, R (.ok (.ret (.bytes b t))) { s with toks := k }) :
    codeAny (model prog w) A (.call (.builtin "bytes.__new__") ⟨[.type "bytes", .ref S], []⟩) R s := by
  have hT : s.TypeIs (.ref S) "bytearray" := ⟨_, hS, rfl⟩
  refine codeAny_of_tree ?_
  show wpAny _ A.in1 (do checkBuiltinCall "bytes.__new__" ⟨[.type "bytes", .ref S], []⟩; again (.builtin "bytes.__new__" ⟨[.type "bytes", .ref S], []⟩)) _ _ s
  refine wpAny_bind (wpAny_of_eq (F.bm_newCall _) (wpAny_pure ⟨plainId_quiet F.bm_plain _, codeAny_builtin F.bm_entry ?_⟩))
  rw [Around.under_plainId F.bm_plain _]
  unfold Builtin.«bytes.__new__»
  refine wpAny_bind (wpAny_of_eq (a := true) rfl ?_)
  refine bm_if_false rfl ?_
  refine wpAny_bind (wpAny_of_eq F.bm_sub ?_)
  refine bm_if_false rfl ?_
  refine wpAny_bind (wpAny_of_eq (F.bm_bind _) ?_)
  refine wpAny_bind (wpAny_of_eq (a := ()) rfl ?_)
  refine wpAny_bind (wpAny_of_eq (a := ()) rfl ?_)
  refine bm_if_false rfl ?_
  refine wpAny_bind (wpAny_specialOf hT ba_no_bytes ?_)
  refine wpAny_bind (wpAny_bind ?_)
  show wpAny _ _ (load S >>= _) _ _ _
  refine wpAny_bind (wpAny_load hS ?_)
  refine wpAny_pure (wpAny_pure ?_)
  refine bm_if_false rfl ?_
  refine wpAny_bind (wpAny_specialOf hT ba_no_index ?_)
  refine bm_if_true rfl ?_
  show wpAny _ _ (Builtin.Bytes.buffer? "bytes.__new__" (.ref S) true >>= _) _ _ _
  refine wpAny_bind ?_
  unfold Builtin.Bytes.buffer?
  refine wpAny_bind (wpAny_specialOf hT ba_buffer ?_)
  dsimp only
  refine wpAny_bind (ba_ownBuffer hT ?_)
  refine bm_if_false rfl ?_
  refine wpAny_bind (wpAny_specialOf hT ba_buffer ?_)
  refine wpAny_bind (ba_release hT ?_)
  refine bm_if_false rfl ?_
  refine wpAny_bind ?_
  unfold Builtin.Bytes.payload Builtin.Bytes.payload?
  refine wpAny_bind (wpAny_bind (wpAny_load hS (wpAny_pure (wpAny_pure ?_))))
  refine wpAny_pure ?_
  dsimp only
  refine wpAny_bind (wpAny_rule ?_)
  refine wpAny_bind (wpAny_mkBytes ?_ (small_size hz))
  show wpAny _ _ (if (Value.type "bytes" == Value.type "bytes") = true then _ else _) _ _ _
  refine bm_if_true (by decide) ?_
  first
    | exact wpAny_pure (hR _ _)
    | exact wpAny_bind (wpAny_pure (wpAny_pure (hR _ _)))
/-- bytes(b) of a bytearray -/
theorem ba_bytes {S : Addr} {b : Array UInt8} {Q : Value → Shared → Prop} (hS : s.heap.get? S = some (baObj b)) (hz : b.size ≤ 1000) (hQ : ∀ t k, Q (.bytes b t) { s with toks := k }) : wpAny (model prog w) A (call (.type "bytes") [.ref S]) Q E s := by
  refine callType_codes (Q₁ := fun obj s₁ => s₁.TypeIs obj "bytes" ∧ Q obj s₁) F.bm_called (F.bm_typeCall _) F.entry_object_init
    (ba_bytes_new hS hz fun t k => ⟨PySem.W.typeIs_bytes _ _ _, hQ t k⟩) fun obj s₁ h₁ => ?_
  exact ⟨h₁.1, F.args_object_init_2 obj _, object_init_meets F.bm_called.init.lookup F.bm_called.made (by decide) prog w A.in1 _ s₁ ⟨h₁.1, rfl, h₁.2⟩⟩
end
end Mine
end

section
open PySem PySem.W PyProof.Rows PySem.Calls
namespace Mine
section
variable {prog : Program} {w : World} {A : Around} {E : Value → Shared → Prop} {s : Shared} {env : Env} {h₀ : Heap} {x : Str} {body : List Stmt} {Q : Flow → Shared → Prop}
/-- a for over a range, by what holds of the frame and the ledger -/
theorem range_for {r : Addr} {a₀ b₀ c : Int} {t₀ u₀ v₀ : Tok} {n : Nat} {m₀ : Str → Option Value} {news : List (Addr × Obj)} (J : Nat → (Str → Option Value) → List (Addr × Obj) → Prop)
    (hh : A.handled = none) (hr : IsRange s.heap r a₀ b₀ c t₀ u₀ v₀) (hsmall : Builtin.Range.small a₀ b₀ c = true) (hn : Builtin.Range.rangeSize a₀ b₀ c = (n : Int)) (F : Fr h₀ env.locals s.heap m₀) (N : News h₀ env.locals s.heap news) (hj : J 0 m₀ news)
    (turn : ∀ i t m₁ news₁ h tk own, i < n → news₁.map (·.1) = news.map (·.1) → OwnOff own (news.map (·.1)) → J i m₁ news₁ → Fr h₀ env.locals h (fun y => if y = x then some (.int (a₀ + (i : Nat) * c) t) else m₁ y) → News h₀ env.locals h (news₁ ++ own) →
      wpAny (model prog w) A (execs body env) (InvPostN h₀ env.locals (J (i + 1)) own (news.map (·.1)) { s with heap := h, toks := tk } Q) E { s with heap := h, toks := tk })
    (done : ∀ m₁ news₁ h tk, J n m₁ news₁ → Fr h₀ env.locals h m₁ → News h₀ env.locals h news₁ → Q .next { s with heap := h, toks := tk }) :
    wpAny (model prog w) A (pyIter (.ref r)) (fun it s₂ => LoopAtV prog w A h₀ env x body Q E it s₂) E s := by
  refine wpAny_pyIter_range hr hsmall ?_
  have W := (Walks.range (prog := prog) (w := w) hh s.heap.objs.size a₀ c n).bound
  have hL := F.ns.lt
  refine loop_invN J W ?_ ?_ ?_ ?_ (by show IsRangeIter _ _ _ _ _; rw [hn]; simpa using Heap.get?_push_size _ rfl) (F.push _) (fun p hp => ⟨Heap.get?_push_of_some _ (N p hp).1, (N p hp).2⟩) hj ?_ done
  · intro hm
    exact absurd hL ((List.mem_singleton.mp hm) ▸ Nat.lt_irrefl _)
  · intro b hb
    rw [List.mem_singleton.mp hb]
    exact next_is_new F
  · intro p hp hI
    exact absurd (Heap.lt_size (N p hp).1) ((List.mem_singleton.mp hI) ▸ Nat.lt_irrefl _)
  · intro p hp hI
    exact absurd (Heap.lt_size (N p hp).1) ((List.mem_singleton.mp hI) ▸ Nat.lt_irrefl _)
  · rintro i v m₁ news₁ h tk own hi ⟨_, t, rfl⟩ hadr hoff hJ F₁ N₁
    exact turn i t m₁ news₁ h tk own hi hadr hoff hJ F₁ N₁
/-- the frame m₁ holds what m₀ holds, but for the names stored -/
def Same (stored : List Str) (m₀ m₁ : Str → Option Value) : Prop := ∀ z, stored.contains z = false → m₁ z = m₀ z
theorem Same.refl (stored : List Str) (m : Str → Option Value) : Same stored m m := fun _ _ => rfl
theorem Same.trans {stored : List Str} {m₀ m₁ m₂ : Str → Option Value} (a : Same stored m₀ m₁) (b : Same stored m₁ m₂) : Same stored m₀ m₂ := fun z h => (b z h).trans (a z h)
theorem Same.put {stored : List Str} {m₀ m₁ : Str → Option Value} {x : Str} {v : Option Value} (hx : stored.contains x = true) (a : Same stored m₀ m₁) : Same stored m₀ (fun y => if y = x then v else m₁ y) := fun z h => by
  show (if z = x then v else m₁ z) = m₀ z
  rw [if_neg (fun e => by rw [e, hx] at h; cases h)]
  exact a z h
theorem Same.mix {sub stored : List Str} {m₀ m₁ u : Str → Option Value} (hs : ∀ z, stored.contains z = false → sub.contains z = false) (a : Same stored m₀ m₁) : Same stored m₀ (fun y => if sub.contains y = true then u y else m₁ y) := fun z h => by
  show (if sub.contains z = true then u z else m₁ z) = m₀ z
  rw [if_neg (by rw [hs z h]; exact Bool.false_ne_true)]
  exact a z h
theorem Same.fr {stored : List Str} {m₀ m₁ : Str → Option Value} {L : Addr} {h : Heap} (a : Same stored m₀ m₁) (F : Fr h₀ L h m₁) : Fr h₀ L h (fun y => if stored.contains y = true then m₁ y else m₀ y) := by
  have e : (fun y => if stored.contains y = true then m₁ y else m₀ y) = m₁ := by
    funext y
    cases hy : stored.contains y with
    | true => simp
    | false => simp only [Bool.false_eq_true, if_false]; exact (a y hy).symm
  rw [e]; exact F
theorem Same.fr1 {stored : List Str} {m₀ m₁ : Str → Option Value} {L : Addr} {h : Heap} {v : Option Value} (a : Same stored m₀ m₁) (F : Fr h₀ L h (fun y => if y = x then v else m₁ y)) : Fr h₀ L h (fun y => if y = x then v else if stored.contains y = true then m₁ y else m₀ y) := by
  have e : (fun y => if y = x then v else if stored.contains y = true then m₁ y else m₀ y) = fun y => if y = x then v else m₁ y := by
    funext y
    by_cases hx : y = x
    · rw [if_pos hx, if_pos hx]
    · rw [if_neg hx, if_neg hx]
      cases hy : stored.contains y with
      | true => simp
      | false => simp only [Bool.false_eq_true, if_false]; exact (a y hy).symm
  rw [e]; exact F
/-- a turn's end: one object of the ledger is o', the other names and objects are as they were -/
def TurnTo (h₀ : Heap) (L S : Addr) (o' : Obj) (rest : List (Addr × Obj)) (stored : List Str) (m₀ : Str → Option Value) (s : Shared) (f : Flow) (s₂ : Shared) : Prop :=
  f = .next ∧ ∃ h' tk' m', s₂ = { s with heap := h', toks := tk' } ∧ Fr h₀ L h' m' ∧ Same stored m₀ m' ∧ News h₀ L h' ((S, o') :: rest)
/-- a for over a range that turns one object of the ledger -/
theorem one_for {r S : Addr} {a₀ b₀ c : Int} {t₀ u₀ v₀ : Tok} {n : Nat} {m₀ : Str → Option Value} {rest : List (Addr × Obj)} (O : Nat → Obj) (stored : List Str)
    (hh : A.handled = none) (hr : IsRange s.heap r a₀ b₀ c t₀ u₀ v₀) (hsmall : Builtin.Range.small a₀ b₀ c = true) (hn : Builtin.Range.rangeSize a₀ b₀ c = (n : Int)) (F : Fr h₀ env.locals s.heap m₀)
    (N : News h₀ env.locals s.heap ((S, O 0) :: rest)) (hS : ∀ p ∈ rest, p.1 ≠ S)
    (turn : ∀ i t (u : Str → Option Value) h tk own, i < n → (∀ p ∈ rest ++ own, p.1 ≠ S) → Fr h₀ env.locals h (fun y => if y = x then some (.int (a₀ + (i : Nat) * c) t) else if stored.contains y = true then u y else m₀ y) → News h₀ env.locals h ((S, O i) :: (rest ++ own)) →
      wpAny (model prog w) A (execs body env) (TurnTo h₀ env.locals S (O (i + 1)) (rest ++ own) stored m₀ { s with heap := h, toks := tk }) E { s with heap := h, toks := tk })
    (done : ∀ (u : Str → Option Value) h tk, Fr h₀ env.locals h (fun y => if stored.contains y = true then u y else m₀ y) → News h₀ env.locals h ((S, O n) :: rest) → Q .next { s with heap := h, toks := tk }) :
    wpAny (model prog w) A (pyIter (.ref r)) (fun it s₂ => LoopAtV prog w A h₀ env x body Q E it s₂) E s := by
  refine range_for (fun i m nx => nx = (S, O i) :: rest ∧ Same stored m₀ m) hh hr hsmall hn F N ⟨rfl, Same.refl _ _⟩ ?_ ?_
  · rintro i t m₁ news₁ h tk own hi _ hoff ⟨rfl, hm⟩ F₁ N₁
    have hS' : ∀ p ∈ rest ++ own, p.1 ≠ S := fun p hp => by
      rcases List.mem_append.mp hp with hp | hp
      · exact hS p hp
      · exact hoff p hp S (List.mem_map.mpr ⟨(S, O 0), .head _, rfl⟩)
    refine wpAny_mono (turn i t m₁ h tk own hi hS' (Same.fr1 hm F₁) N₁) (fun f s₂ g => ?_) fun _ _ e => e
    obtain ⟨rfl, h', tk', m', rfl, F', hm', N'⟩ := g
    refine InvEndN.intro (nx := (S, O (i + 1)) :: rest) F' N' ⟨rfl, hm'⟩ rfl (fun p hp => ?_) fun p hp => List.mem_cons_of_mem _ (List.mem_append_right _ hp)
    rcases List.mem_cons.mp hp with rfl | hp
    · exact List.mem_cons_self
    · exact List.mem_cons_of_mem _ (List.mem_append_left _ hp)
  · rintro m₁ news₁ h tk ⟨rfl, hm⟩ F₁ N₁
    exact done m₁ h tk (hm.fr F₁) N₁
end
end Mine
end

section
open PySem PySem.W PyProof.Rows PySem.Calls
namespace Mine
section
variable {prog : Program} {w : World} {A : Around} {E : Value → Shared → Prop} {s : Shared} {env : Env} {h₀ : Heap} {x : Str} {body : List Stmt} {Q : Flow → Shared → Prop}
/-- a turn's end: the ledger's first objects, at the addresses adr, are of P; the other names and objects are as they were -/
def TurnToP (h₀ : Heap) (L : Addr) (adr : List Addr) (P : List (Addr × Obj) → Prop) (rest : List (Addr × Obj)) (stored : List Str) (m₀ : Str → Option Value) (s : Shared) (f : Flow) (s₂ : Shared) : Prop :=
  f = .next ∧ ∃ h' tk' m' os' news', s₂ = { s with heap := h', toks := tk' } ∧ P os' ∧ os'.map (·.1) = adr ∧ Fr h₀ L h' m' ∧ Same stored m₀ m' ∧ News h₀ L h' news' ∧ (∀ p ∈ os', p ∈ news') ∧ ∀ p ∈ rest, p ∈ news'
/-- a for over a range that turns some objects of the ledger, known by what holds of them -/
theorem many_for {r : Addr} {a₀ b₀ c : Int} {t₀ u₀ v₀ : Tok} {n : Nat} {m₀ : Str → Option Value} {rest os₀ : List (Addr × Obj)} (adr : List Addr) (P : Nat → List (Addr × Obj) → Prop) (stored : List Str)
    (hh : A.handled = none) (hr : IsRange s.heap r a₀ b₀ c t₀ u₀ v₀) (hsmall : Builtin.Range.small a₀ b₀ c = true) (hn : Builtin.Range.rangeSize a₀ b₀ c = (n : Int)) (F : Fr h₀ env.locals s.heap m₀)
    (N : News h₀ env.locals s.heap (os₀ ++ rest)) (hP : P 0 os₀) (ha : os₀.map (·.1) = adr) (hS : ∀ p ∈ rest, ∀ b ∈ adr, p.1 ≠ b)
    (turn : ∀ i t (u : Str → Option Value) h tk own os, i < n → P i os → os.map (·.1) = adr → (∀ p ∈ rest ++ own, ∀ b ∈ adr, p.1 ≠ b) → Fr h₀ env.locals h (fun y => if y = x then some (.int (a₀ + (i : Nat) * c) t) else if stored.contains y = true then u y else m₀ y) → News h₀ env.locals h (os ++ (rest ++ own)) →
      wpAny (model prog w) A (execs body env) (TurnToP h₀ env.locals adr (P (i + 1)) (rest ++ own) stored m₀ { s with heap := h, toks := tk }) E { s with heap := h, toks := tk })
    (done : ∀ (u : Str → Option Value) h tk os, P n os → os.map (·.1) = adr → Fr h₀ env.locals h (fun y => if stored.contains y = true then u y else m₀ y) → News h₀ env.locals h (os ++ rest) → Q .next { s with heap := h, toks := tk }) :
    wpAny (model prog w) A (pyIter (.ref r)) (fun it s₂ => LoopAtV prog w A h₀ env x body Q E it s₂) E s := by
  refine range_for (fun i m nx => ∃ os, P i os ∧ os.map (·.1) = adr ∧ nx = os ++ rest ∧ Same stored m₀ m) hh hr hsmall hn F N ⟨os₀, hP, ha, rfl, Same.refl _ _⟩ ?_ ?_
  · rintro i t m₁ news₁ h tk own hi _ hoff ⟨os, hPo, ha', rfl, hm⟩ F₁ N₁
    have hS' : ∀ p ∈ rest ++ own, ∀ b ∈ adr, p.1 ≠ b := fun p hp b hb => by
      rcases List.mem_append.mp hp with hp | hp
      · exact hS p hp b hb
      · refine hoff p hp b ?_
        rw [List.map_append, ha]
        exact List.mem_append_left _ hb
    refine wpAny_mono (turn i t m₁ h tk own os hi hPo ha' hS' (Same.fr1 hm F₁) (by rw [← List.append_assoc]; exact N₁)) (fun f s₂ g => ?_) fun _ _ e => e
    obtain ⟨rfl, h', tk', m', os', news', rfl, hP', ha2, F', hm', N', h1, h2⟩ := g
    refine InvEndN.intro (nx := os' ++ rest) F' N' ⟨os', hP', ha2, rfl, hm'⟩ (by rw [List.map_append, List.map_append, ha2, ha]) (fun p hp => ?_) fun p hp => h2 p (List.mem_append_right _ hp)
    rcases List.mem_append.mp hp with hp | hp
    · exact h1 p hp
    · exact h2 p (List.mem_append_left _ hp)
  · rintro m₁ news₁ h tk ⟨os, hPo, ha', rfl, hm⟩ F₁ N₁
    exact done m₁ h tk os hPo ha' (hm.fr F₁) N₁
end
end Mine
end

section
open PySem PySem.W PyProof.Rows PySem.Calls
namespace Mine
section
variable {prog : Program} {w : World} {A : Around} {E : Value → Shared → Prop} {s : Shared} {env : Env} {h₀ : Heap} {x : Str} {body : List Stmt} {Q : Flow → Shared → Prop}
/-- a for over a range that grows one list of ints and stores into one cell -/
theorem tape_for {r S C : Addr} {a₀ b₀ c : Int} {t₀ u₀ v₀ : Tok} {n e₀ : Nat} {m₀ : Str → Option Value} {rest : List (Addr × Obj)} {vs₀ : List Value} {oc₀ : Obj} {v₁ : Option Value} (T : Nat → List Int) (stored : List Str)
    (hh : A.handled = none) (hr : IsRange s.heap r a₀ b₀ c t₀ u₀ v₀) (hsmall : Builtin.Range.small a₀ b₀ c = true) (hn : Builtin.Range.rangeSize a₀ b₀ c = (n : Int)) (F : Fr h₀ env.locals s.heap m₀)
    (N : News h₀ env.locals s.heap ((S, listOf vs₀.toArray e₀) :: (C, oc₀) :: rest)) (hv : IntsAre vs₀ (T 0)) (hd : oc₀.data = .cell v₁) (hS : ∀ p ∈ rest, p.1 ≠ S) (hC : ∀ p ∈ rest, p.1 ≠ C)
    (turn : ∀ i t (u : Str → Option Value) h tk own vs e oc v, i < n → IntsAre vs (T i) → oc.data = .cell v → (∀ p ∈ rest ++ own, p.1 ≠ S) → (∀ p ∈ rest ++ own, p.1 ≠ C) → Fr h₀ env.locals h (fun y => if y = x then some (.int (a₀ + (i : Nat) * c) t) else if stored.contains y = true then u y else m₀ y) →
      News h₀ env.locals h ((S, listOf vs.toArray e) :: (C, oc) :: (rest ++ own)) →
      wpAny (model prog w) A (execs body env) (TurnToP h₀ env.locals [S, C] (fun os => ∃ vs e oc v, os = [(S, listOf vs.toArray e), (C, oc)] ∧ oc.data = .cell v ∧ IntsAre vs (T (i + 1))) (rest ++ own) stored m₀ { s with heap := h, toks := tk }) E { s with heap := h, toks := tk })
    (done : ∀ (u : Str → Option Value) h tk vs e oc v, IntsAre vs (T n) → oc.data = .cell v → Fr h₀ env.locals h (fun y => if stored.contains y = true then u y else m₀ y) → News h₀ env.locals h ((S, listOf vs.toArray e) :: (C, oc) :: rest) → Q .next { s with heap := h, toks := tk }) :
    wpAny (model prog w) A (pyIter (.ref r)) (fun it s₂ => LoopAtV prog w A h₀ env x body Q E it s₂) E s := by
  refine many_for (os₀ := [(S, listOf vs₀.toArray e₀), (C, oc₀)]) [S, C] (fun i os => ∃ vs e oc v, os = [(S, listOf vs.toArray e), (C, oc)] ∧ oc.data = .cell v ∧ IntsAre vs (T i)) stored hh hr hsmall hn F N ⟨_, _, _, _, rfl, hd, hv⟩ rfl (fun p hp b hb => ?_) ?_ ?_
  · rcases List.mem_cons.mp hb with rfl | hb
    · exact hS p hp
    · rw [List.mem_singleton.mp hb]; exact hC p hp
  · rintro i t u h tk own os hi ⟨vs, e, oc, v, rfl, hd', hv'⟩ _ hoff F' N'
    exact turn i t u h tk own vs e oc v hi hv' hd' (fun p hp => hoff p hp S (.head _)) (fun p hp => hoff p hp C (.tail _ (.head _))) F' N'
  · rintro u h tk os ⟨vs, e, oc, v, rfl, hd', hv'⟩ _ F' N'
    exact done u h tk vs e oc v hv' hd' F' N'
end
end Mine
end

section
open PySem PySem.W PyProof.Rows PySem.Calls
namespace Mine
section
variable {prog : Program} {w : World} {A : Around} {E : Value → Shared → Prop} {s : Shared} {h₀ : Heap} {L : Addr} {m : Str → Option Value} {news : List (Addr × Obj)}
theorem keeps_refl (s : Shared) : Keeps s s := ⟨s.heap, s.toks, rfl, fun _ _ e => e⟩
/-- [elt for x in l] over a list of ints that gives ints -/
theorem comp_ints {env : Env} {elt : PySem.Expr} {x : Str} {scope : Scope} {Q : Value → Shared → Prop} {l : Addr} {vs : List Value} {ns : List Int} {f : Int → Int}
    (hh : A.handled = none) (hl : s.heap.IsList l vs.toArray) (hi : IntsAre vs ns) (F : Fr h₀ L s.heap m) (N : News h₀ L s.heap news) (hsz : ns.length ≤ sizeLine)
    (turn : ∀ C (a : Int) t s₂ m₂ E', a ∈ ns → s₂.heap.Ns (compEnv scope C env).locals m₂ → m₂ x = some (.int a t) → s.toks ≤ s₂.toks → wpAny (model prog w) A (eval elt (compEnv scope C env)) (fun r s₃ => Carried r (.int (f a)) ∧ Keeps s₂ s₃) E' s₂)
    (done : ∀ D e ys h' tk, Fr h₀ L h' m → News h₀ L h' ((D, listOf (List.toArray ys) e) :: news) → (∀ p ∈ news, p.1 ≠ D) → IntsAre ys (ns.map f) → Q (.ref D) { s with heap := h', toks := tk }) :
    wpAny (model prog w) A (pyIter (.ref l)) (CompPost prog w A env scope x [] elt Q) E s := by
  refine srcC_listDW (pz := fun _ => true) (d := fun a => .int (f a)) hh hl hi.areOf F N ?_ ?_ ?_ hsz
  · intro C a v s₂ m₂ E' _ _ _ _ _
    show wpAny _ _ (pure true) _ _ _
    exact wpAny_pure ⟨rfl, keeps_refl _⟩
  · intro C a v s₂ m₂ E' ha hk _ hns hx ht
    obtain ⟨t, rfl⟩ := ItemKind.int_is hk
    exact turn C a t s₂ m₂ E' ha hns hx ht
  · intro D ys h' tk F' N' hD hl' hP hc
    obtain ⟨⟨e, hg⟩, hne⟩ := id hP
    refine done D e ys h' tk F' (fun q hq => ?_) hne (by rw [List.filter_eq_self.mpr (fun _ _ => rfl)] at hc; exact hc.intsOf)
    rcases List.mem_cons.mp hq with rfl | hq
    · exact ⟨hg, hP.ne_locals F', hD⟩
    · exact N' q hq
end
end Mine
end

section
open PySem PySem.W PyProof.Rows PySem.Calls
set_option maxRecDepth 100000
namespace Mine
theorem list_iadd_seq : seqSlot? (.type "list") (dunderI "add") = pure (some (.builtin "list.__iadd__")) := by
  unfold seqSlot?
  rw [PySem.F.slot_list_iadd.lookup]; rfl
theorem list_iadd_fills : fillsInplaceSlot (.type "list") "add" (Operator.Add == .Add) = pure false := by
  unfold fillsInplaceSlot
  show (typeLookup (.type "list") (dunderI "add") >>= fun fi => pure (fi.isSome && !isSeqSlot fi)) = pure false
  rw [PySem.F.slot_list_iadd.lookup]; rfl
section
variable {prog : Program} {w : World} {A : Around} {E : Value → Shared → Prop} {s : Shared} {h₀ : Heap} {L D b l : Addr} {m : Str → Option Value} {news news' : List (Addr × Obj)}
/-- l[-1] of a list of ints -/
theorem item_neg1 {value slice : PySem.Expr} {vs : List Value} {ns : List Int} {u : Tok} {Q : Value → Shared → Prop} (hl : s.heap.IsList l vs.toArray) (hi : IntsAre vs ns) (hn : 0 < ns.length) (h : ∀ t, Q (.int (ns.getD (ns.length - 1) 0) t) s)
    (hs : subscripted slice false (.ref l) (.int (-1) u) = operate [.ref l, .int (-1) u] (getItem (.ref l) (.int (-1) u)) := by with_unfolding_all rfl) :
    wpAny (model prog w) A (subscriptTail value slice (.ref l) (.int (-1) u)) Q E s := by
  have hlt : ns.length - 1 < ns.length := by omega
  obtain ⟨t, ht⟩ := hi.get (ns.length - 1) (ns.getD (ns.length - 1) 0) (by rw [List.getD_eq_getElem?_getD, List.getElem?_eq_getElem hlt]; rfl)
  refine kde_neg (j := ns.length - 1) hl (by decide) (by decide) ?_ ht (h t) hs
  have e := IntsAre.length hi
  unfold seqIndex?
  rw [e]
  simp only [show ((-1 : Int) < 0) = True by simp, if_true]
  rw [if_pos (by simp; omega)]
  congr 1
  omega
/-- l += m of lists of the ledger -/
theorem list_iadd {its : Array Value} {its2 all : List Value} {n n2 : Nat} {Q : Value → Shared → Prop} (F : Fr h₀ L s.heap m) (N : News h₀ L s.heap news) (hb : (b, listOf its2.toArray n2) ∈ news) (hne : its2.length ≠ 0) (he : its.toList ++ its2 = all)
    (U : Upd D (listOf its n) (listOf all.toArray (n + 1)) news news') (hz : its.size ≤ 1000) (hz2 : its2.length ≤ 1000)
    (h : ∀ h', Fr h₀ L h' m → News h₀ L h' news' → Q (.ref D) { s with heap := h' }) : wpAny (model prog w) A (inplaceOp .Add (.ref D) (.ref b)) Q E s := by
  subst he
  obtain ⟨pre, post, rfl, rfl, a, c⟩ := U.split
  have z := N (D, listOf its n) (List.mem_append.mpr (.inr (.head _)))
  have hTD : s.TypeIs (.ref D) "list" := ⟨_, z.1, rfl⟩
  have hTb : s.TypeIs (.ref b) "list" := ⟨_, (N _ hb).1, rfl⟩
  unfold inplaceOp
  refine wpAny_holding ?_
  refine wpAny_bind (wpAny_typeOf hTD (wpAny_bind (wpAny_of_eq list_iadd_fills ?_)))
  show wpAny _ A (if false = true then _ else _) Q E s
  rw [if_neg Bool.false_ne_true]
  refine wpAny_bind (PyProof.Rows.binaryOp1_none (nm := "add") hTD hTb (by kernel_rfl) ?_)
  refine wpAny_bind (wpAny_of_eq list_iadd_seq ?_)
  refine wpAny_bind (wpAny_rule ?_)
  have e16 : sizeLine = 16777216 := by decide
  refine call_meets PySem.F.slot_list_iadd hTD PySem.F.entry_list_iadd (PySem.F.args_list_iadd_2 _ _) (PySem.AutoSeq1.list___iadd___list_list_0 D its n b its2.toArray n2 ?_ (by rw [e16]; omega) (by rw [e16]; simp; omega)) ⟨z.1, (N _ hb).1, h _ (F.change (Heap.SameBut.update ..) z.2.1 z.2.2) (kl_turn _ N a c ?_ ?_)⟩
  · intro hh
    have := (Bool.and_eq_true _ _ ▸ hh).2
    revert this
    unfold Builtin.List.listTooLong
    simp
    omega
  · simp
  · simp at hne ⊢
    exact hne
end
end Mine
end

section
open PySem PySem.W PyProof.Rows PySem.Calls
namespace Mine
section
variable {prog : Program} {w : World} {A : Around} {E : Value → Shared → Prop} {s : Shared} {h₀ : Heap} {L l : Addr} {m : Str → Option Value} {news : List (Addr × Obj)} {value slice : PySem.Expr} {vs : List Value} {ns ms : List Int} {vl vu : Value} {lo hi : Option Int} {Q : Value → Shared → Prop}
/-- a slice of a list of ints, of whatever base -/
theorem slice_temp (F : Fr h₀ L s.heap m) (N : News h₀ L s.heap news) (hl : s.heap.IsList l vs.toArray) (pl : IsPart vl lo) (pu : IsPart vu hi) (hm : IntsAre (slicePick vs.toArray lo hi none).toList ms)
    (h : ∀ D ws h', Fr h₀ L h' m → News h₀ L h' ((D, listOf (List.toArray ws) 0) :: news) → (∀ p ∈ news, p.1 < D) → IntsAre ws ms → Q (.ref D) { s with heap := h' })
    (hs : subscripted slice false (.ref l) (.ref s.heap.objs.size) = operate [.ref s.heap.objs.size, .ref l] (getItem (.ref l) (.ref s.heap.objs.size))) (hsz : vs.toArray.size ≤ sizeLine) :
    wpAny (model prog w) A (subscriptTail value slice (.ref l) (.ref s.heap.objs.size)) Q E { s with heap := s.heap.push { cls := .type "slice", data := .fields #[vl, vu, .none] } } := by
  refine tail_any (Heap.IsList.typeIs (s := { s with heap := s.heap.push { cls := .type "slice", data := .fields #[vl, vu, .none] } }) (hl.push _)) list_getitem_lookup
    (wpAny_getItem_list_slice (hl.push _) (Heap.IsSliceOf.new ..) pl pu .none (by simp) ?_ hsz) hs
  have N1 := News.push (F.push { cls := .type "slice", data := .fields #[vl, vu, .none] }) (N.grown fun _ _ e => Heap.get?_push_of_some _ e) { cls := .type "list", data := .seq (slicePick vs.toArray lo hi none) }
  rw [Heap.size_push] at N1
  show Q (.ref (s.heap.push _).objs.size) _
  rw [Heap.size_push]
  refine h _ (slicePick vs.toArray lo hi none).toList _ ((F.push _).push _) ?_ (fun p hp => Nat.lt_succ_of_lt (Heap.lt_size (N p hp).1)) hm
  rw [Array.toArray_toList]
  exact N1
end
end Mine
end

section
open PySem PySem.W PyProof.Rows PySem.Calls
set_option maxRecDepth 100000
namespace Mine
abbrev itObj (b : Array UInt8) (t : Tok) (i : Nat) : Obj := { cls := .type "bytes_iterator", data := .fields #[.bytes b t, .int i 0] }
section
variable {prog : Program} {w : World} {A : Around} {E : Value → Shared → Prop} {s : Shared} {h₀ : Heap} {L : Addr} {m : Str → Option Value} {news news' : List (Addr × Obj)} {b : Array UInt8} {t : Tok}
/-- iter(b) of bytes -/
theorem it_make {Q : Value → Shared → Prop} (F : Fr h₀ L s.heap m) (N : News h₀ L s.heap news)
    (h : ∀ I h', Fr h₀ L h' m → News h₀ L h' ((I, itObj b t 0) :: news) → (∀ p ∈ news, p.1 < I) → Q (.ref I) { s with heap := h' }) : wpAny (model prog w) A (call (.builtin "iter") [.bytes b t]) Q E s := by
  refine call_function_entry (by decide +kernel) (by decide +kernel) kdk_entry_iter (kdk_args_iter _) ?_
  unfold Builtin.«iter»
  refine wpAny_bind (m := someArgs "iter" 1 2 _) (wpAny_of_eq (a := [Value.bytes b t]) (by first | rfl | kernel_rfl!) ?_)
  show wpAny _ _ (pyIter (.bytes b t) >>= _) _ _ _
  refine wpAny_bind (KBw.pyIter_bytes ?_)
  exact wpAny_pure ⟨_, rfl, h _ _ (F.push _) (News.push F N _ rfl) (fun q hq => Heap.lt_size (N q hq).1)⟩
/-- next(it) of a bytes' iterator on the ledger -/
theorem it_next {I : Addr} {i : Nat} {c : UInt8} {Q : Value → Shared → Prop} (F : Fr h₀ L s.heap m) (N : News h₀ L s.heap news) (U : Upd I (itObj b t i) (itObj b t (i + 1)) news news') (hx : b[i]? = some c)
    (h : ∀ h' tk, Fr h₀ L h' m → News h₀ L h' news' → Q (.int (c.toNat : Int) s.toks) { s with heap := h', toks := tk }) : wpAny (model prog w) A (call (.builtin "next") [.ref I]) Q E s := by
  obtain ⟨pre, post, rfl, rfl, a, c'⟩ := U.split
  have z := N (I, itObj b t i) (List.mem_append.mpr (.inr (.head _)))
  have hT : s.TypeIs (.ref I) "bytes_iterator" := ⟨_, z.1, rfl⟩
  refine call_function_entry (by decide +kernel) (by decide +kernel) kdk_entry_next (kdk_args_next _) ?_
  unfold Builtin.«next»
  refine wpAny_bind (m := someArgs "next" 1 2 _) (wpAny_of_eq (a := [Value.ref I]) (by first | rfl | kernel_rfl!) ?_)
  dsimp only
  refine wpAny_bind (wpAny_specialOf (name := Str.ofString "__next__") hT KBw.slot_next.lookup ?_)
  refine wpAny_ite_split (fun hab => absurd hab (by decide)) (fun _ => ?_)
  refine wpAny_bind (wpAny_callSpecial?_slot (name := Str.ofString "__next__") hT KBw.slot_next (wpAny_call_entry KBw.slot_next hT KBw.entry_next ?_ (KBw.args_next _)))
  show wpAny _ _ (field (.ref I) 0 >>= _) _ _ s
  refine wpAny_bind (wpAny_field z.1 rfl (x := .bytes b t) rfl ?_)
  show wpAny _ _ (if (Value.bytes b t == Value.none) = true then _ else _) _ _ s
  rw [if_neg (show ¬ ((Value.bytes b t == Value.none) = true) from Bool.false_ne_true)]
  show wpAny _ _ (field (.ref I) 1 >>= _) _ _ s
  refine wpAny_bind (wpAny_field z.1 rfl (x := .int i 0) rfl ?_)
  refine wpAny_bind (wpAny_of_eq (a := b) rfl ?_)
  simp only [Int.toNat_natCast, hx]
  refine wpAny_bind (wpAny_setField z.1 rfl (by simp) (wpAny_bind (wpAny_mkInt (wpAny_pure ⟨_, rfl, wpAny_pure ⟨_, rfl, h _ _ (F.change (Heap.SameBut.update ..) z.2.1 z.2.2) (News.setAt N a c' (Heap.SameBut.update ..) ?_)⟩⟩))))
  exact Heap.get?_update_self (Obj.mapFields _) z.1 rfl
end
end Mine
end

section
open PySem PySem.W PyProof.Rows PySem.Calls
set_option maxRecDepth 100000
namespace Mine
theorem it_no_len : typeLookup (.type "bytes_iterator") "__len__" = pure none := by rw [typeLookup_type, builtinLookup_eq_fast]; kernel_rfl
theorem it_hint : typeLookup (.type "bytes_iterator") "__length_hint__" = pure (some (.builtin "bytes_iterator.__length_hint__")) := by rw [typeLookup_type, builtinLookup_eq_fast]; kernel_rfl
section
variable {prog : Program} {w : World} {A : Around} {E : Value → Shared → Prop} {s : Shared} {h₀ : Heap} {L : Addr} {m : Str → Option Value} {news news' : List (Addr × Obj)} {b : Array UInt8} {t : Tok}
theorem it_hints {I : Addr} {Q : Bool → Shared → Prop} (hT : s.TypeIs (.ref I) "bytes_iterator") (h : Q false s) : wpAny (model prog w) A (Builtin.List.listLengthHint (.ref I)) Q E s := by
  unfold Builtin.List.listLengthHint
  refine wpAny_bind (wpAny_specialOf hT it_no_len ?_)
  refine wpAny_bind (wpAny_specialOf (name := Str.ofString "__length_hint__") hT it_hint ?_)
  generalize hid : ("bytes_iterator.__length_hint__" : String) = id0
  wp_delta
  rw [show splitId id0 = some ("bytes_iterator", "__length_hint__") from by subst hid; decide +kernel]
  subst hid
  refine wpAny_bind (wpAny_isInstance (T := "bytes_iterator") (b := true) hT (by rw [isSubtype_type]; kernel_rfl) ?_)
  refine wpAny_ite_split (fun hab => absurd hab (by decide)) (fun _ => ?_)
  refine wpAny_ite_split (fun _ => ?_) (fun hab => absurd (by decide +kernel) hab)
  refine wpAny_ite_split (fun hab => absurd hab (by decide +kernel)) (fun _ => ?_)
  exact wpAny_pure h
/-- list(it) of a bytes' iterator at its end -/
theorem it_list {I : Addr} {Q : Value → Shared → Prop} (hh : A.handled = none) (F : Fr h₀ L s.heap m) (N : News h₀ L s.heap ((I, itObj b t b.size) :: news)) (hI : ∀ p ∈ news, p.1 ≠ I)
    (h : ∀ D c h' tk, Fr h₀ L h' m → News h₀ L h' ((D, listOf ([] : List Value).toArray c) :: news) → (∀ p ∈ news, p.1 < D) → Q (.ref D) { s with heap := h', toks := tk }) :
    wpAny (model prog w) A (call (.type "list") [.ref I]) Q E s := by
  have z := N (I, itObj b t b.size) (.head _)
  have hlt := Heap.lt_size z.1
  refine callType_codes (Q₁ := fun obj s₁ => obj = .ref s.heap.objs.size ∧ s₁ = { s with heap := s.heap.push { cls := .type "list", data := .seq #[] } }) PySem.F.called_list (PySem.F.typeCall_list_1 _) PySem.F.entry_list_init
    (code_list_new _ ⟨rfl, rfl⟩) fun obj s₁ h₁ => ?_
  obtain ⟨rfl, rfl⟩ := h₁
  have hS : (s.heap.push { cls := .type "list", data := .seq #[] }).get? s.heap.objs.size = some { cls := .type "list", data := .seq #[] } := Heap.get?_push_size _ rfl
  have hne : s.heap.objs.size ≠ I := Nat.ne_of_gt hlt
  refine ⟨⟨_, hS, rfl⟩, PySem.F.args_list_init_2 _ _, ?_⟩
  generalize hD : s.heap.objs.size = D at *
  have key : ∀ (h1 : Heap) (c : Nat) (tk : Nat), (∀ b o, b ≠ D → s.heap.get? b = some o → h1.get? b = some o) → h1.get? D = some { cls := .type "list", data := .seq #[] c } →
      codeAny (model prog w) A.in1 (.builtin "list.extend.loop" ⟨[.ref D, .ref I, .none], []⟩) (wants (fun r s₂ => r = .none ∧ Q (.ref D) s₂) E) { s with heap := h1, toks := tk } := by
    intro h1 c tk hk hD1
    refine codeAny_builtin PySem.F.entry_extend_loop ?_
    rw [Around.under_plainId PySem.F.plain_extend_loop _]
    show wpAny _ _ (pyNext (.ref I) >>= _) _ _ _
    refine wpAny_bind (KBw.next_end (i := b.size) (b := b) (t := t) hh ⟨_, hk I _ (Ne.symm hne) z.1, rfl, rfl⟩ (by simp) fun h' he => ?_)
    refine wpAny_pure ⟨rfl, h D c h' tk ⟨?_, ?_, F.above⟩ ?_ (fun q hq => by rw [← hD]; exact Heap.lt_size (N q (.tail _ hq)).1)⟩
    · have hL : L ≠ D := by rw [← hD]; exact Nat.ne_of_lt F.ns.lt
      exact F.ns.at fun o e => he L o z.2.1.symm (hk L o hL e)
    · intro b' o e
      refine he b' o (fun e' => ?_) (hk b' o (fun e' => ?_) (F.keep b' o e))
      · rw [e', z.2.2] at e; cases e
      · rw [e', ← hD, F.fresh] at e; cases e
    · intro q hq
      rcases List.mem_cons.mp hq with rfl | hq
      · refine ⟨he D _ hne hD1, ?_, ?_⟩
        · show D ≠ L
          rw [← hD]; exact Nat.ne_of_gt F.ns.lt
        · show h₀.get? D = none
          rw [← hD]; exact F.fresh
      · have zq := N q (.tail _ hq)
        exact ⟨he q.1 _ (hI q hq) (hk q.1 _ (by rw [← hD]; exact Nat.ne_of_lt (Heap.lt_size zq.1)) zq.1), zq.2⟩
  show wpAny _ _ (do let old ← Builtin.List.listItems (.ref D); Builtin.List.listUpdate (.ref D) (fun _ => #[]); letGo old.toList.reverse; Builtin.List.listExtendWith (.ref D) (.ref I) .none) _ _ _
  refine wpAny_bind ?_
  unfold Builtin.List.listItems
  refine wpAny_bind (wpAny_seqItems hS rfl (wpAny_pure ?_))
  show wpAny _ _ (updateSeq D (fun _ => #[]) >>= fun _ => letGo (#[] : Array Value).toList.reverse >>= fun _ => Builtin.List.listExtendWith (.ref D) (.ref I) .none) _ _ _
  refine wpAny_bind (wpAny_updateSeq hS rfl ?_)
  have hS₂ := Heap.get?_update_self (Obj.mapSeq (fun _ => (#[] : Array Value))) hS rfl
  have oth : ∀ b o, b ≠ D → s.heap.get? b = some o → ((s.heap.push { cls := .type "list", data := .seq #[] }).update D (Obj.mapSeq (fun _ => (#[] : Array Value)))).get? b = some o :=
    fun b o hb e => (Heap.get?_update_other _ _ (Ne.symm hb)).trans (Heap.get?_push_of_some _ e)
  have hI2 := oth I _ (Ne.symm hne) z.1
  refine wpAny_bind (wpAny_letGo ?_)
  unfold Builtin.List.listExtendWith
  refine wpAny_bind (wpAny_typeOf (T := "bytes_iterator") ⟨_, hI2, rfl⟩ ?_)
  have h1 : Builtin.List.listSameRef (.ref D) (.ref I) = false := by simp [Builtin.List.listSameRef, hne]
  have h2 : (Value.type "bytes_iterator" == Value.type "list") = false := by decide
  have h3 : (Value.type "bytes_iterator" == Value.type "tuple") = false := by decide
  simp only [h1, h2, h3, Bool.or_false, Bool.false_eq_true, if_false]
  refine wpAny_bind (KBw.pyIter_self (b := b) (t := t) (i := b.size) ⟨_, hI2, rfl, rfl⟩ ?_)
  refine wpAny_bind (wpAny_holding (it_hints ⟨_, hI2, rfl⟩ ?_))
  refine wpAny_ite_split (fun hab => absurd hab (by decide)) (fun _ => ?_)
  exact wpAny_pure ⟨plainId_quiet PySem.F.plain_extend_loop _, key _ _ s.toks oth hS₂⟩
end
end Mine
end

section
open PySem PySem.W PyProof.Rows PySem.Calls
namespace Mine
section
variable {prog : Program} {w : World} {A : Around} {E : Value → Shared → Prop} {Q : Flow → Shared → Prop} {s : Shared} {env : Env} {h₀ : Heap} {L : Addr}
/-- the frame of a while that stores two ints -/
abbrev fr2 (x y : Str) (a b : Int) (ta tb : Tok) (m₀ : Str → Option Value) : Str → Option Value := fun z => if z = y then some (.int b tb) else if z = x then some (.int a ta) else m₀ z
theorem fr2_eq {x y : Str} {a b : Int} {ta tb : Tok} {m m₀ : Str → Option Value} (hx : m x = some (.int a ta)) (hy : m y = some (.int b tb)) (h : ∀ z, z ≠ x → z ≠ y → m z = m₀ z) : m = fr2 x y a b ta tb m₀ := by
  funext z
  show m z = if z = y then _ else if z = x then _ else m₀ z
  by_cases h1 : z = y
  · rw [if_pos h1, h1, hy]
  · rw [if_neg h1]
    by_cases h2 : z = x
    · rw [if_pos h2, h2, hx]
    · rw [if_neg h2]; exact h z h2 h1
/-- a turn's end -/
def TwoEnd (h₀ : Heap) (L : Addr) (s : Shared) (x y : Str) (a b : Int) (m₀ : Str → Option Value) (news : List (Addr × Obj)) (f : Flow) (s₃ : Shared) : Prop :=
  f = .next ∧ ∃ h' tk' m' tx' ty', s₃ = { s with heap := h', toks := tk' } ∧ Fr h₀ L h' m' ∧ m' x = some (.int a tx') ∧ m' y = some (.int b ty') ∧ (∀ z, z ≠ x → z ≠ y → m' z = m₀ z) ∧ News h₀ L h' news
/-- a while that turns two ints of the frame and one object of the ledger -/
theorem while_two {x y : Str} {test : PySem.Expr} {body : List Stmt} {pos : Pos} {m₀ : Str → Option Value} {I : Addr} {rest : List (Addr × Obj)} {tx ty : Tok} (O : Nat → Obj) (X Y : Nat → Int) (n : Nat)
    (F : Fr h₀ L s.heap m₀) (N : News h₀ L s.heap ((I, O 0) :: rest)) (hx : m₀ x = some (.int (X 0) tx)) (hy : m₀ y = some (.int (Y 0) ty))
    (turn : ∀ k tx ty h tk, k ≤ n → Fr h₀ L h (fr2 x y (X k) (Y k) tx ty m₀) → News h₀ L h ((I, O k) :: rest) →
      wpAny (model prog w) A (isTrue test env (eval test env)) (fun b s₂ => if b = true then k < n ∧ wpAny (model prog w) A (execs body env)
        (TwoEnd h₀ L s x y (X (k + 1)) (Y (k + 1)) m₀ ((I, O (k + 1)) :: rest)) E s₂
        else Q .next s₂) E { s with heap := h, toks := tk })
    (hE : PassesOwn (model prog w) A env E := by passes_own) :
    wpAny (model prog w) A (exec (.While test body [] pos) env) Q E s := by
  refine While_inv2 (fun j m nx => ∃ k tx ty, j = n - k ∧ k ≤ n ∧ nx = (I, O k) :: rest ∧ m = fr2 x y (X k) (Y k) tx ty m₀) F N ⟨0, tx, ty, rfl, Nat.zero_le _, rfl, fr2_eq hx hy fun _ _ _ => rfl⟩ ?_ hE
  rintro j m₁ nx h tk F₁ N₁ ⟨k, tx, ty, rfl, hk, rfl, rfl⟩
  refine wpAny_mono (turn k tx ty h tk hk F₁ N₁) (fun b s₂ p => ?_) fun _ _ x => x
  cases b with
  | false => simpa using p
  | true =>
    simp only [if_true] at p ⊢
    obtain ⟨hlt, p⟩ := p
    refine wpAny_mono p (fun f s₃ q => ?_) fun _ _ x => x
    obtain ⟨rfl, h', tk', m', tx', ty', rfl, F', hx', hy', hm', N'⟩ := q
    exact ⟨h', tk', m', (I, O (k + 1)) :: rest, n - (k + 1), rfl, F', N', by omega, k + 1, tx', ty', rfl, hlt, rfl, fr2_eq hx' hy' hm'⟩
end
end Mine
end

section
theorem Mine.freshIns : True := by
  w_top off
  trivial
open PySem PySem.W PyProof.Rows
namespace Mine
-- words of one's own are asked first
local macro_rules | `(tactic| walk_at $s:str) => `(tactic| k_extra $s)
-- the def's body is entered
local macro_rules | `(tactic| walk_at "m_enter") => `(tactic| k_dflt (refine' code_def ?k1 ?k2 ?k3 ?k4 ?k5 ?kA ?kF ?kK ?k6 ?k7 ?k8 ?k9 ?kB ?_ ?c2 ?c3 ?c4 ?c5; (case kA => exact rfl); (case kF => exact rfl); (case kK => assumption); (case k1 => k_asm); (case k2 => k_asm); (case k3 => k_asm); (case k4 => k_asm); (case k5 => k_asm); (case k6 => k_is); (case k7 => k_is); (case k8 => ktr_room); (case k9 => (refine' kp_binds ?kx ?ke; (case kx => k_in); (case ke => exact fun _ => rfl))); (case c5 => decide); (case kB => exact locs rfl); (case c2 => exact rfl); (case c3 => exact rfl); (case c4 => exact rfl); k_whole; intro g' L' h' FG' F' N' B' X' T'; (try dsimp only); (try k_fold)))
-- steps, as far as they go
local macro_rules | `(tactic| walk_at "m_steps") => `(tactic| repeat' (first | (k_unfold; (try dsimp only)) | walk1 | (dsimp only; walk1) | (leave1; walk_say "STEP leave1"; (try dsimp only)) | fail "no step"))
-- a contract's premises at a call
local macro_rules | `(tactic| walk_at "m_use") => `(tactic| ((case k1 => k_asm); (case k2 => k_asm); (case k3 => k_asm); (case k5 => k_asm); (case kK => first | exact rfl | assumption); (case kd => ((simp only [Around.deeper, ktrTop] at *); omega)); (case ku => ((simp only [Around.deeper, ktrTop] at *); omega))))
local macro_rules | `(tactic| units_room) => `(tactic| (simp only [units_in1, units_deeper, Around.mark_units, ktrTop]; omega))
-- a turn's end over a ledger with an unwritten tail
local macro_rules | `(tactic| walk_at "UnrEnd") => `(tactic| (refine UnrEnd.intro (by assumption) (by assumption) _ (fun p hp => hp) (by first | exact lt_off (by assumption) | exact allLt_off (by assumption)) ?_))
-- steps, up to a loop's iterator
local macro_rules | `(tactic| walk_at "m_toIter") => `(tactic| repeat' ((fail_if_success (with_reducible show wpAny _ _ (pyIter _) _ _ _)); first | (k_unfold; (try dsimp only)) | walk1 | (dsimp only; walk1) | (leave1; walk_say "STEP leave1"; (try dsimp only)) | fail "no step"))
-- the same over clean stacks
local macro_rules | `(tactic| walk_at "m_enterC") => `(tactic| k_dflt (refine' codeC_def ?k1 ?k2 ?k3 ?k4 ?k5 ?kA ?kF ?kK ?k6 ?k7 ?k8 ?k9 ?kB ?_ ?c2 ?c3 ?c4 ?c5; (case kA => exact rfl); (case kF => exact rfl); (case kK => assumption); (case k1 => k_asm); (case k2 => k_asm); (case k3 => k_asm); (case k4 => k_asm); (case k5 => k_asm); (case k6 => k_is); (case k7 => k_is); (case k8 => ktr_room); (case k9 => (refine' kp_binds ?kx ?ke; (case kx => k_in); (case ke => exact fun _ => rfl))); (case c5 => decide); (case kB => exact locs rfl); (case c2 => exact rfl); (case c3 => exact rfl); (case c4 => exact rfl); k_whole; intro g' L' h' tk' FG' F' N' B' X' T'; (try dsimp only)))
-- the same for a def with cells
local macro_rules | `(tactic| walk_at "m_enterCells") => `(tactic| k_dflt (refine' code_defC ?k1 ?k2 ?k3 ?k4 ?k5 ?kA ?kF ?kK ?k6 ?k7 ?k8 ?k9 ?kB ?kD ?_ ?c2 ?c3 ?c4; (case kA => exact rfl); (case kF => exact rfl); (case kK => assumption); (case k1 => k_asm); (case k2 => k_asm); (case k3 => k_asm); (case k4 => k_asm); (case k5 => k_asm); (case k6 => k_is); (case k7 => k_is); (case k8 => ktr_room); (case k9 => (refine' kp_binds ?kx ?ke; (case kx => k_in); (case ke => exact fun _ => rfl))); (case kB => exact rfl); (case kD => decide +kernel); (case c2 => exact rfl); (case c3 => exact rfl); (case c4 => exact rfl); k_whole; intro g' L' h' tk' cells' FG' F' N' Y' B' X' T' l1; k_cells Y'; (try simp only [List.cons_append, List.nil_append] at N'); (try dsimp only); (try k_fold)))
-- an unwritten ledger tail lies off
local macro_rules | `(tactic| k_all) => `(tactic| first | assumption | exact lt_off (by assumption) | exact allLt_off (by assumption))
-- steps, up to a call of a def
local macro_rules | `(tactic| walk_at "m_toCall") => `(tactic| repeat' ((fail_if_success (with_reducible show wpAny _ _ (call (.ref _) _) _ _ _)); first | (k_unfold; (try dsimp only)) | walk1 | (dsimp only; walk1) | (leave1; walk_say "STEP leave1"; (try dsimp only)) | fail "no step"))
-- steps, up to an item's asking
local macro_rules | `(tactic| walk_at "m_toSub") => `(tactic| repeat' ((fail_if_success (with_reducible show wpAny _ _ (subscriptTail _ _ _ _) _ _ _)); first | (k_unfold; (try dsimp only)) | walk1 | (dsimp only; walk1) | (leave1; walk_say "STEP leave1"; (try dsimp only)) | fail "no step"))
theorem intsAre_take {vs : List Value} {ns : List Int} (h : IntsAre vs ns) : ∀ k, IntsAre (vs.take k) (ns.take k) := by
  induction h with
  | nil => intro k; simpa using IntsAre.nil
  | cons n t _ ih => intro k; cases k with
    | zero => exact .nil
    | succ k => exact .cons n t (ih k)
theorem intsAre_drop {vs : List Value} {ns : List Int} (h : IntsAre vs ns) : ∀ k, IntsAre (vs.drop k) (ns.drop k) := by
  induction h with
  | nil => intro k; simpa using IntsAre.nil
  | cons n t h ih => intro k; cases k with
    | zero => exact .cons n t h
    | succ k => exact ih k
/-- a list of ints with one put in at place k -/
def putAt (ns : List Int) (k : Nat) (x : Int) : List Int := ns.take k ++ x :: ns.drop k
theorem kl_ins_ints {vs : List Value} {ns : List Int} (h : IntsAre vs ns) {k : Nat} (hk : k ≤ ns.length) (x : Int) (t : Tok) : IntsAre (kl_ins vs (k : Int) (.int x t)) (putAt ns k x) := by
  have e : kl_ins vs (k : Int) (.int x t) = vs.take k ++ .int x t :: vs.drop k := by
    unfold kl_ins
    have hl := IntsAre.length h
    rw [if_neg (by omega), show min ((k : Int).toNat) vs.length = k from by omega]
  rw [e]
  exact IntsAre.append (intsAre_take h k) (.cons _ _ (intsAre_drop h k))
theorem fits_small {k : Nat} (h : k ≤ 1000) : Builtin.List.listFitsIndex (k : Int) = true := by
  unfold Builtin.List.listFitsIndex
  simp only [Bool.and_eq_true, decide_eq_true_eq]
  omega
theorem small_fits {n : Nat} (h : n ≤ 1000) : n ≤ sizeLine := by
  have e : sizeLine = 16777216 := by decide
  rw [e]; omega
set_option maxRecDepth 100000 in
set_option maxHeartbeats 8000000 in
theorem insort_does (w : World) (l : Addr) (vs : List Value) (ns : List Int) (e : Nat) (x : Int) (tx : Tok) (rest : List (Addr × Obj)) (hi : IntsAre vs ns) (hn : ns.length ≤ 1000) (hr : ∀ p ∈ rest, p.1 ≠ l) :
    Does 4 w 30 ((l, listOf vs.toArray e) :: rest) [.ref l, .int x tx] fun r news' => ∃ vs', r = .none ∧ IntsAre vs' (putAt ns (bis ns x) x) ∧ news' = (l, listOf vs'.toArray (e + 1)) :: rest := by
  unfold Does
  k_fill
  intro dp un gd cn cs a ccd cl outer A₀ base h₀ L m mg mb p loose mean s Q E B F X N T hk hdp hun hret
  refine wpAny_call ?_
  walk_at "m_enter"
  k_with "call ref" => (refine' does_use (bisect_does4 _ _ _ _ _ _ _ _ _ ?i ?n) ?k1 ?k2 ?k3 ?k4 ?k5 ?kK ?kd ?ku ?_; (case k4 => k_asm); (case i => assumption); (case n => assumption); walk_at "m_use"; intro r9 news9 h9 tk9 F9 N9 P9; obtain ⟨t9, e9, e8⟩ := P9; subst e9; subst e8; (try dsimp only))
  walk_at "m_steps"
  have hb := bis_le ns x
  have hlen := IntsAre.length hi
  refine kl_insert (by k_asm) (by k_asm) (fits_small (by omega)) rfl (.head hr) (small_fits (by show vs.length ≤ 1000; omega)) ?_
  intro h' F' N'
  walk_at "m_steps"
  k_with_none
  exact hret _ _ _ _ (by k_asm) (by k_asm) ⟨_, rfl, kl_ins_ints hi hb x tx, rfl⟩
end Mine
end

section
theorem Mine.freshSgn : True := by
  w_top off
  trivial
open PySem PySem.W PyProof.Rows
namespace Mine
-- words of one's own are asked first
local macro_rules | `(tactic| walk_at $s:str) => `(tactic| k_extra $s)
-- the def's body is entered
local macro_rules | `(tactic| walk_at "m_enter") => `(tactic| k_dflt (refine' code_def ?k1 ?k2 ?k3 ?k4 ?k5 ?kA ?kF ?kK ?k6 ?k7 ?k8 ?k9 ?kB ?_ ?c2 ?c3 ?c4 ?c5; (case kA => exact rfl); (case kF => exact rfl); (case kK => assumption); (case k1 => k_asm); (case k2 => k_asm); (case k3 => k_asm); (case k4 => k_asm); (case k5 => k_asm); (case k6 => k_is); (case k7 => k_is); (case k8 => ktr_room); (case k9 => (refine' kp_binds ?kx ?ke; (case kx => k_in); (case ke => exact fun _ => rfl))); (case c5 => decide); (case kB => exact locs rfl); (case c2 => exact rfl); (case c3 => exact rfl); (case c4 => exact rfl); k_whole; intro g' L' h' FG' F' N' B' X' T'; (try dsimp only); (try k_fold)))
-- steps, as far as they go
local macro_rules | `(tactic| walk_at "m_steps") => `(tactic| repeat' (first | (k_unfold; (try dsimp only)) | walk1 | (dsimp only; walk1) | (leave1; walk_say "STEP leave1"; (try dsimp only)) | fail "no step"))
-- a contract's premises at a call
local macro_rules | `(tactic| walk_at "m_use") => `(tactic| ((case k1 => k_asm); (case k2 => k_asm); (case k3 => k_asm); (case k5 => k_asm); (case kK => first | exact rfl | assumption); (case kd => ((simp only [Around.deeper, ktrTop] at *); omega)); (case ku => ((simp only [Around.deeper, ktrTop] at *); omega))))
local macro_rules | `(tactic| units_room) => `(tactic| (simp only [units_in1, units_deeper, Around.mark_units, ktrTop]; omega))
-- a turn's end over a ledger with an unwritten tail
local macro_rules | `(tactic| walk_at "UnrEnd") => `(tactic| (refine UnrEnd.intro (by assumption) (by assumption) _ (fun p hp => hp) (by first | exact lt_off (by assumption) | exact allLt_off (by assumption)) ?_))
-- steps, up to a loop's iterator
local macro_rules | `(tactic| walk_at "m_toIter") => `(tactic| repeat' ((fail_if_success (with_reducible show wpAny _ _ (pyIter _) _ _ _)); first | (k_unfold; (try dsimp only)) | walk1 | (dsimp only; walk1) | (leave1; walk_say "STEP leave1"; (try dsimp only)) | fail "no step"))
-- the same over clean stacks
local macro_rules | `(tactic| walk_at "m_enterC") => `(tactic| k_dflt (refine' codeC_def ?k1 ?k2 ?k3 ?k4 ?k5 ?kA ?kF ?kK ?k6 ?k7 ?k8 ?k9 ?kB ?_ ?c2 ?c3 ?c4 ?c5; (case kA => exact rfl); (case kF => exact rfl); (case kK => assumption); (case k1 => k_asm); (case k2 => k_asm); (case k3 => k_asm); (case k4 => k_asm); (case k5 => k_asm); (case k6 => k_is); (case k7 => k_is); (case k8 => ktr_room); (case k9 => (refine' kp_binds ?kx ?ke; (case kx => k_in); (case ke => exact fun _ => rfl))); (case c5 => decide); (case kB => exact locs rfl); (case c2 => exact rfl); (case c3 => exact rfl); (case c4 => exact rfl); k_whole; intro g' L' h' tk' FG' F' N' B' X' T'; (try dsimp only)))
-- the same for a def with cells
local macro_rules | `(tactic| walk_at "m_enterCells") => `(tactic| k_dflt (refine' code_defC ?k1 ?k2 ?k3 ?k4 ?k5 ?kA ?kF ?kK ?k6 ?k7 ?k8 ?k9 ?kB ?kD ?_ ?c2 ?c3 ?c4; (case kA => exact rfl); (case kF => exact rfl); (case kK => assumption); (case k1 => k_asm); (case k2 => k_asm); (case k3 => k_asm); (case k4 => k_asm); (case k5 => k_asm); (case k6 => k_is); (case k7 => k_is); (case k8 => ktr_room); (case k9 => (refine' kp_binds ?kx ?ke; (case kx => k_in); (case ke => exact fun _ => rfl))); (case kB => exact rfl); (case kD => decide +kernel); (case c2 => exact rfl); (case c3 => exact rfl); (case c4 => exact rfl); k_whole; intro g' L' h' tk' cells' FG' F' N' Y' B' X' T' l1; k_cells Y'; (try simp only [List.cons_append, List.nil_append] at N'); (try dsimp only); (try k_fold)))
-- an unwritten ledger tail lies off
local macro_rules | `(tactic| k_all) => `(tactic| first | assumption | exact lt_off (by assumption) | exact allLt_off (by assumption))
-- steps, up to a call of a def
local macro_rules | `(tactic| walk_at "m_toCall") => `(tactic| repeat' ((fail_if_success (with_reducible show wpAny _ _ (call (.ref _) _) _ _ _)); first | (k_unfold; (try dsimp only)) | walk1 | (dsimp only; walk1) | (leave1; walk_say "STEP leave1"; (try dsimp only)) | fail "no step"))
-- steps, up to an item's asking
local macro_rules | `(tactic| walk_at "m_toSub") => `(tactic| repeat' ((fail_if_success (with_reducible show wpAny _ _ (subscriptTail _ _ _ _) _ _ _)); first | (k_unfold; (try dsimp only)) | walk1 | (dsimp only; walk1) | (leave1; walk_say "STEP leave1"; (try dsimp only)) | fail "no step"))
/-- _law_sign over a list of ints -/
def sgnL (ns : List Int) (x : Int) : Int := if x = 0 then 0 else if (ns.drop (bis ns x)).take 1 = [x] then 1 else -1
theorem one_cut (ns : List Int) (b : Nat) (_h : b ≤ ns.length) : List.take (min ((b : Int) + 1).toNat ns.length - (b : Int).toNat) (List.drop (b : Int).toNat ns) = (ns.drop b).take 1 := by
  rw [show (b : Int).toNat = b from by omega, show ((b : Int) + 1).toNat = b + 1 from by omega]
  by_cases h : b < ns.length
  · rw [show min (b + 1) ns.length - b = 1 from by omega]
  · rw [List.drop_eq_nil_of_le (by omega)]; simp
theorem sgnL_zero (ns : List Int) : (0 : Int) = sgnL ns 0 := rfl
theorem sgnL_one {ns : List Int} {x : Int} (hb : bis ns x ≤ ns.length) (h0 : x ≠ 0) (h : List.take (min ((bis ns x : Int) + 1).toNat ns.length - (bis ns x : Int).toNat) (List.drop (bis ns x : Int).toNat ns) = [x]) : (1 : Int) = sgnL ns x := by
  rw [one_cut ns _ hb] at h
  unfold sgnL
  rw [if_neg h0, if_pos h]
theorem sgnL_neg {ns : List Int} {x : Int} (hb : bis ns x ≤ ns.length) (h0 : x ≠ 0) (h : ¬ List.take (min ((bis ns x : Int) + 1).toNat ns.length - (bis ns x : Int).toNat) (List.drop (bis ns x : Int).toNat ns) = [x]) : (-1 : Int) = sgnL ns x := by
  rw [one_cut ns _ hb] at h
  unfold sgnL
  rw [if_neg h0, if_neg h]
set_option maxRecDepth 100000 in
set_option maxHeartbeats 8000000 in
theorem sign_does (w : World) (l : Addr) (vs : List Value) (ns : List Int) (e : Nat) (x : Int) (tx : Tok) (rest : List (Addr × Obj)) (hi : IntsAre vs ns) (hn : ns.length ≤ 1000) :
    Does 4 w 65 ((l, listOf vs.toArray e) :: rest) [.ref l, .int x tx] fun r news' => ∃ t, r = .int (sgnL ns x) t ∧ news' = (l, listOf vs.toArray e) :: rest := by
  unfold Does
  k_fill
  intro dp un gd cn cs a ccd cl outer A₀ base h₀ L m mg mb p loose mean s Q E B F X N T hk hdp hun hret
  refine wpAny_call ?_
  walk_at "m_enter"
  have hsz : vs.toArray.size ≤ sizeLine := small_fits (by have := IntsAre.length hi; simp; omega)
  have hb := bis_le ns x
  k_with "call ref" => (refine' does_use (bisect_does _ _ _ _ _ _ _ _ ?i ?n) ?k1 ?k2 ?k3 ?k4 ?k5 ?kK ?kd ?ku ?_; (case k4 => k_asm); (case i => assumption); (case n => assumption); walk_at "m_use"; intro r9 news9 h9 tk9 F9 N9 P9; obtain ⟨t9, e9, e8⟩ := P9; subst e9; subst e8; (try dsimp only))
  k_with "subscriptTail Name Slice ref ref" => (k_dflt (refine' kmk_slice_ints ?zzF ?zzN ?zzl ?zzp ?zzq ?zzi ?zzm ?zzc ?_ ?zzs ?zzt ?zzz; (case zzF => k_asm); (case zzN => k_asm); (case zzl => exact News.isList (by k_asm) (by k_mem)); (case zzp => exact IsPart.int _ _); (case zzq => exact IsPart.int _ _); (case zzi => exact hi); (case zzm => exact kmk_run hi (Int.natCast_nonneg _) (by omega)); (case zzc => exact (List.length_take ..).trans (congrArg _ (List.length_drop ..))); (case zzs => with_unfolding_all rfl); (case zzt => (intro _; with_unfolding_all rfl)); (case zzz => exact hsz)); intro D' ws' h' F' N' l1 hI' hC' hL'; (try k_lt l1); (try k_sweep))
  walk_at "m_steps"
  k_with_none
  · exact hret _ _ _ _ (by k_asm) (by k_asm) ⟨_, congrArg (Value.int · _) (by subst_vars; exact sgnL_zero ns), rfl⟩
  · exact hret _ _ _ _ (by k_asm) (cb_drop (by assumption) (fun p hp => .tail _ (.tail _ hp))) ⟨_, congrArg (Value.int · _) (sgnL_one (by assumption) (by assumption) (by assumption)), rfl⟩
  · exact hret _ _ _ _ (by k_asm) (cb_drop (by assumption) (fun p hp => .tail _ (.tail _ hp))) ⟨_, congrArg (Value.int · _) (sgnL_neg (by assumption) (by assumption) (by assumption)), rfl⟩
end Mine
end

section
theorem Mine.freshHalf : True := by
  w_top off
  trivial
open PySem PySem.W PyProof.Rows
namespace Mine
-- words of one's own are asked first
local macro_rules | `(tactic| walk_at $s:str) => `(tactic| k_extra $s)
-- the def's body is entered
local macro_rules | `(tactic| walk_at "m_enter") => `(tactic| k_dflt (refine' code_def ?k1 ?k2 ?k3 ?k4 ?k5 ?kA ?kF ?kK ?k6 ?k7 ?k8 ?k9 ?kB ?_ ?c2 ?c3 ?c4 ?c5; (case kA => exact rfl); (case kF => exact rfl); (case kK => assumption); (case k1 => k_asm); (case k2 => k_asm); (case k3 => k_asm); (case k4 => k_asm); (case k5 => k_asm); (case k6 => k_is); (case k7 => k_is); (case k8 => ktr_room); (case k9 => (refine' kp_binds ?kx ?ke; (case kx => k_in); (case ke => exact fun _ => rfl))); (case c5 => decide); (case kB => exact locs rfl); (case c2 => exact rfl); (case c3 => exact rfl); (case c4 => exact rfl); k_whole; intro g' L' h' FG' F' N' B' X' T'; (try dsimp only); (try k_fold)))
-- steps, as far as they go
local macro_rules | `(tactic| walk_at "m_steps") => `(tactic| repeat' (first | (k_unfold; (try dsimp only)) | walk1 | (dsimp only; walk1) | (leave1; walk_say "STEP leave1"; (try dsimp only)) | fail "no step"))
-- a contract's premises at a call
local macro_rules | `(tactic| walk_at "m_use") => `(tactic| ((case k1 => k_asm); (case k2 => k_asm); (case k3 => k_asm); (case k5 => k_asm); (case kK => first | exact rfl | assumption); (case kd => ((simp only [Around.deeper, ktrTop] at *); omega)); (case ku => ((simp only [Around.deeper, ktrTop] at *); omega))))
local macro_rules | `(tactic| units_room) => `(tactic| (simp only [units_in1, units_deeper, Around.mark_units, ktrTop]; omega))
-- a turn's end over a ledger with an unwritten tail
local macro_rules | `(tactic| walk_at "UnrEnd") => `(tactic| (refine UnrEnd.intro (by assumption) (by assumption) _ (fun p hp => hp) (by first | exact lt_off (by assumption) | exact allLt_off (by assumption)) ?_))
-- steps, up to a loop's iterator
local macro_rules | `(tactic| walk_at "m_toIter") => `(tactic| repeat' ((fail_if_success (with_reducible show wpAny _ _ (pyIter _) _ _ _)); first | (k_unfold; (try dsimp only)) | walk1 | (dsimp only; walk1) | (leave1; walk_say "STEP leave1"; (try dsimp only)) | fail "no step"))
-- the same over clean stacks
local macro_rules | `(tactic| walk_at "m_enterC") => `(tactic| k_dflt (refine' codeC_def ?k1 ?k2 ?k3 ?k4 ?k5 ?kA ?kF ?kK ?k6 ?k7 ?k8 ?k9 ?kB ?_ ?c2 ?c3 ?c4 ?c5; (case kA => exact rfl); (case kF => exact rfl); (case kK => assumption); (case k1 => k_asm); (case k2 => k_asm); (case k3 => k_asm); (case k4 => k_asm); (case k5 => k_asm); (case k6 => k_is); (case k7 => k_is); (case k8 => ktr_room); (case k9 => (refine' kp_binds ?kx ?ke; (case kx => k_in); (case ke => exact fun _ => rfl))); (case c5 => decide); (case kB => exact locs rfl); (case c2 => exact rfl); (case c3 => exact rfl); (case c4 => exact rfl); k_whole; intro g' L' h' tk' FG' F' N' B' X' T'; (try dsimp only)))
-- the same for a def with cells
local macro_rules | `(tactic| walk_at "m_enterCells") => `(tactic| k_dflt (refine' code_defC ?k1 ?k2 ?k3 ?k4 ?k5 ?kA ?kF ?kK ?k6 ?k7 ?k8 ?k9 ?kB ?kD ?_ ?c2 ?c3 ?c4; (case kA => exact rfl); (case kF => exact rfl); (case kK => assumption); (case k1 => k_asm); (case k2 => k_asm); (case k3 => k_asm); (case k4 => k_asm); (case k5 => k_asm); (case k6 => k_is); (case k7 => k_is); (case k8 => ktr_room); (case k9 => (refine' kp_binds ?kx ?ke; (case kx => k_in); (case ke => exact fun _ => rfl))); (case kB => exact rfl); (case kD => decide +kernel); (case c2 => exact rfl); (case c3 => exact rfl); (case c4 => exact rfl); k_whole; intro g' L' h' tk' cells' FG' F' N' Y' B' X' T' l1; k_cells Y'; (try simp only [List.cons_append, List.nil_append] at N'); (try dsimp only); (try k_fold)))
-- an unwritten ledger tail lies off
local macro_rules | `(tactic| k_all) => `(tactic| first | assumption | exact lt_off (by assumption) | exact allLt_off (by assumption))
-- steps, up to a call of a def
local macro_rules | `(tactic| walk_at "m_toCall") => `(tactic| repeat' ((fail_if_success (with_reducible show wpAny _ _ (call (.ref _) _) _ _ _)); first | (k_unfold; (try dsimp only)) | walk1 | (dsimp only; walk1) | (leave1; walk_say "STEP leave1"; (try dsimp only)) | fail "no step"))
-- steps, up to an item's asking
local macro_rules | `(tactic| walk_at "m_toSub") => `(tactic| repeat' ((fail_if_success (with_reducible show wpAny _ _ (subscriptTail _ _ _ _) _ _ _)); first | (k_unfold; (try dsimp only)) | walk1 | (dsimp only; walk1) | (leave1; walk_say "STEP leave1"; (try dsimp only)) | fail "no step"))
/-- _law_half's sum -/
def halfL (ns : List Int) (p c : Int) : Int := List.foldl (fun a k => a + sgnL ns ((k * (k * k + c)).fmod p)) 0 (rangeKs 1 (p.fdiv 2 + 1 - 1).toNat)
set_option maxRecDepth 100000 in
set_option maxHeartbeats 8000000 in
theorem half_does (w : World) (l : Addr) (vs : List Value) (ns : List Int) (e : Nat) (pr c : Int) (tp tc : Tok) (rest : List (Addr × Obj)) (hi : IntsAre vs ns) (hn : ns.length ≤ 1000) (hp0 : 0 < pr) (hp1 : pr ≤ 1000) (hc0 : 0 ≤ c) (hc1 : c ≤ 1000) :
    Does 5 w 72 ((l, listOf vs.toArray e) :: rest) [.ref l, .int pr tp, .int c tc] fun r news' => ∃ t, r = .int (halfL ns pr c) t ∧ news' = (l, listOf vs.toArray e) :: rest := by
  unfold Does
  k_fill
  intro dp un gd cn cs a ccd cl outer A₀ base h₀ L m mg mb p loose mean s Q E B F X N T hk hdp hun hret
  refine wpAny_call ?_
  walk_at "m_enter"
  k_with "call ref" => (refine' does_use (sign_does _ _ _ _ _ _ _ _ ?zzi ?zzn) ?k1 ?k2 ?k3 ?k4 ?k5 ?kK ?kd ?ku ?_; (case k4 => k_asm); (case zzi => assumption); (case zzn => assumption); walk_at "m_use"; intro r9 news9 h9 tk9 F9 N9 P9; obtain ⟨t9, e9, e8⟩ := P9; subst e9; subst e8; (try dsimp only))
  walk_at "m_steps"
  k_with_none
  exact hret _ _ _ _ (by k_asm) (by k_asm) ⟨_, rfl, rfl⟩
end Mine
end

section
theorem Mine.freshSq : True := by
  w_top off
  trivial
open PySem PySem.W PyProof.Rows
namespace Mine
-- words of one's own are asked first
local macro_rules | `(tactic| walk_at $s:str) => `(tactic| k_extra $s)
-- the def's body is entered
local macro_rules | `(tactic| walk_at "m_enter") => `(tactic| k_dflt (refine' code_def ?k1 ?k2 ?k3 ?k4 ?k5 ?kA ?kF ?kK ?k6 ?k7 ?k8 ?k9 ?kB ?_ ?c2 ?c3 ?c4 ?c5; (case kA => exact rfl); (case kF => exact rfl); (case kK => assumption); (case k1 => k_asm); (case k2 => k_asm); (case k3 => k_asm); (case k4 => k_asm); (case k5 => k_asm); (case k6 => k_is); (case k7 => k_is); (case k8 => ktr_room); (case k9 => (refine' kp_binds ?kx ?ke; (case kx => k_in); (case ke => exact fun _ => rfl))); (case c5 => decide); (case kB => exact locs rfl); (case c2 => exact rfl); (case c3 => exact rfl); (case c4 => exact rfl); k_whole; intro g' L' h' FG' F' N' B' X' T'; (try dsimp only); (try k_fold)))
-- steps, as far as they go
local macro_rules | `(tactic| walk_at "m_steps") => `(tactic| repeat' (first | (k_unfold; (try dsimp only)) | walk1 | (dsimp only; walk1) | (leave1; walk_say "STEP leave1"; (try dsimp only)) | fail "no step"))
-- a contract's premises at a call
local macro_rules | `(tactic| walk_at "m_use") => `(tactic| ((case k1 => k_asm); (case k2 => k_asm); (case k3 => k_asm); (case k5 => k_asm); (case kK => first | exact rfl | assumption); (case kd => ((simp only [Around.deeper, ktrTop] at *); omega)); (case ku => ((simp only [Around.deeper, ktrTop] at *); omega))))
local macro_rules | `(tactic| units_room) => `(tactic| (simp only [units_in1, units_deeper, Around.mark_units, ktrTop]; omega))
-- a turn's end over a ledger with an unwritten tail
local macro_rules | `(tactic| walk_at "UnrEnd") => `(tactic| (refine UnrEnd.intro (by assumption) (by assumption) _ (fun p hp => hp) (by first | exact lt_off (by assumption) | exact allLt_off (by assumption)) ?_))
-- steps, up to a loop's iterator
local macro_rules | `(tactic| walk_at "m_toIter") => `(tactic| repeat' ((fail_if_success (with_reducible show wpAny _ _ (pyIter _) _ _ _)); first | (k_unfold; (try dsimp only)) | walk1 | (dsimp only; walk1) | (leave1; walk_say "STEP leave1"; (try dsimp only)) | fail "no step"))
-- the same over clean stacks
local macro_rules | `(tactic| walk_at "m_enterC") => `(tactic| k_dflt (refine' codeC_def ?k1 ?k2 ?k3 ?k4 ?k5 ?kA ?kF ?kK ?k6 ?k7 ?k8 ?k9 ?kB ?_ ?c2 ?c3 ?c4 ?c5; (case kA => exact rfl); (case kF => exact rfl); (case kK => assumption); (case k1 => k_asm); (case k2 => k_asm); (case k3 => k_asm); (case k4 => k_asm); (case k5 => k_asm); (case k6 => k_is); (case k7 => k_is); (case k8 => ktr_room); (case k9 => (refine' kp_binds ?kx ?ke; (case kx => k_in); (case ke => exact fun _ => rfl))); (case c5 => decide); (case kB => exact locs rfl); (case c2 => exact rfl); (case c3 => exact rfl); (case c4 => exact rfl); k_whole; intro g' L' h' tk' FG' F' N' B' X' T'; (try dsimp only)))
-- the same for a def with cells
local macro_rules | `(tactic| walk_at "m_enterCells") => `(tactic| k_dflt (refine' code_defC ?k1 ?k2 ?k3 ?k4 ?k5 ?kA ?kF ?kK ?k6 ?k7 ?k8 ?k9 ?kB ?kD ?_ ?c2 ?c3 ?c4; (case kA => exact rfl); (case kF => exact rfl); (case kK => assumption); (case k1 => k_asm); (case k2 => k_asm); (case k3 => k_asm); (case k4 => k_asm); (case k5 => k_asm); (case k6 => k_is); (case k7 => k_is); (case k8 => ktr_room); (case k9 => (refine' kp_binds ?kx ?ke; (case kx => k_in); (case ke => exact fun _ => rfl))); (case kB => exact rfl); (case kD => decide +kernel); (case c2 => exact rfl); (case c3 => exact rfl); (case c4 => exact rfl); k_whole; intro g' L' h' tk' cells' FG' F' N' Y' B' X' T' l1; k_cells Y'; (try simp only [List.cons_append, List.nil_append] at N'); (try dsimp only); (try k_fold)))
-- an unwritten ledger tail lies off
local macro_rules | `(tactic| k_all) => `(tactic| first | assumption | exact lt_off (by assumption) | exact allLt_off (by assumption))
-- steps, up to a call of a def
local macro_rules | `(tactic| walk_at "m_toCall") => `(tactic| repeat' ((fail_if_success (with_reducible show wpAny _ _ (call (.ref _) _) _ _ _)); first | (k_unfold; (try dsimp only)) | walk1 | (dsimp only; walk1) | (leave1; walk_say "STEP leave1"; (try dsimp only)) | fail "no step"))
-- steps, up to an item's asking
local macro_rules | `(tactic| walk_at "m_toSub") => `(tactic| repeat' ((fail_if_success (with_reducible show wpAny _ _ (subscriptTail _ _ _ _) _ _ _)); first | (k_unfold; (try dsimp only)) | walk1 | (dsimp only; walk1) | (leave1; walk_say "STEP leave1"; (try dsimp only)) | fail "no step"))
theorem news_drop2 {h₀ : Heap} {L : Addr} {h : Heap} {a b c : Addr × Obj} {rest : List (Addr × Obj)} (N : News h₀ L h (a :: b :: c :: rest)) : News h₀ L h (a :: rest) :=
  cb_drop N fun _ hp => (List.mem_cons.mp hp).elim (fun e => e ▸ .head _) fun hp => .tail _ (.tail _ (.tail _ hp))
/-- the two numbers whose squares are together a prime of the law's -/
def sqT (p : Int) : Int × Int := if p = 13 then (3, 2) else if p = 17 then (1, 4) else if p = 29 then (5, 2) else if p = 37 then (1, 6) else if p = 41 then (5, 4) else if p = 53 then (7, 2) else if p = 61 then (5, 6) else (1, 2)
/-- the law's primes -/
def IsP (p : Int) : Prop := p = 13 ∨ p = 17 ∨ p = 29 ∨ p = 37 ∨ p = 41 ∨ p = 53 ∨ p = 61 ∨ p = 5
theorem IsP.pos {p : Int} (h : IsP p) : 5 ≤ p ∧ p ≤ 61 := by unfold IsP at h; omega
theorem sqT_at {p o e q : Int} (h : q = p) (d : sqT q = (o, e)) : sqT p = (o, e) := h ▸ d

set_option maxRecDepth 100000 in
set_option maxHeartbeats 8000000 in
theorem squares_does (w : World) (pr : Int) (tp : Tok) (rest : List (Addr × Obj)) (hpr : IsP pr) :
    Does 2 w 79 rest [.int pr tp] fun r news' => ∃ T o e t1 t2, r = .ref T ∧ news' = (T, { cls := .type "tuple", data := .seq #[.int o t1, .int e t2] 0 }) :: rest ∧ sqT pr = (o, e) := by
  unfold Does
  k_fill
  intro dp un gd cn cs a ccd cl outer A₀ base h₀ L m mg mb p loose mean s Q E B F X N T hk hdp hun hret
  refine wpAny_call ?_
  walk_at "m_enter"
  walk_at "m_steps"
  k_with_none
  all_goals first
    | exact hret _ _ _ _ (by k_asm) (news_drop2 (by assumption)) ⟨_, _, _, _, _, rfl, rfl, sqT_at (by assumption) (by decide)⟩
    | (exfalso; unfold IsP at hpr; omega)
end Mine
end

section
theorem Mine.freshSwap : True := by
  w_top off
  trivial
open PySem PySem.W PyProof.Rows
namespace Mine
-- words of one's own are asked first
local macro_rules | `(tactic| walk_at $s:str) => `(tactic| k_extra $s)
-- the def's body is entered
local macro_rules | `(tactic| walk_at "m_enter") => `(tactic| k_dflt (refine' code_def ?k1 ?k2 ?k3 ?k4 ?k5 ?kA ?kF ?kK ?k6 ?k7 ?k8 ?k9 ?kB ?_ ?c2 ?c3 ?c4 ?c5; (case kA => exact rfl); (case kF => exact rfl); (case kK => assumption); (case k1 => k_asm); (case k2 => k_asm); (case k3 => k_asm); (case k4 => k_asm); (case k5 => k_asm); (case k6 => k_is); (case k7 => k_is); (case k8 => ktr_room); (case k9 => (refine' kp_binds ?kx ?ke; (case kx => k_in); (case ke => exact fun _ => rfl))); (case c5 => decide); (case kB => exact locs rfl); (case c2 => exact rfl); (case c3 => exact rfl); (case c4 => exact rfl); k_whole; intro g' L' h' FG' F' N' B' X' T'; (try dsimp only); (try k_fold)))
-- steps, as far as they go
local macro_rules | `(tactic| walk_at "m_steps") => `(tactic| repeat' (first | (k_unfold; (try dsimp only)) | walk1 | (dsimp only; walk1) | (leave1; walk_say "STEP leave1"; (try dsimp only)) | fail "no step"))
-- a contract's premises at a call
local macro_rules | `(tactic| walk_at "m_use") => `(tactic| ((case k1 => k_asm); (case k2 => k_asm); (case k3 => k_asm); (case k5 => k_asm); (case kK => first | exact rfl | assumption); (case kd => ((simp only [Around.deeper, ktrTop] at *); omega)); (case ku => ((simp only [Around.deeper, ktrTop] at *); omega))))
local macro_rules | `(tactic| units_room) => `(tactic| (simp only [units_in1, units_deeper, Around.mark_units, ktrTop]; omega))
-- a turn's end over a ledger with an unwritten tail
local macro_rules | `(tactic| walk_at "UnrEnd") => `(tactic| (refine UnrEnd.intro (by assumption) (by assumption) _ (fun p hp => hp) (by first | exact lt_off (by assumption) | exact allLt_off (by assumption)) ?_))
-- steps, up to a loop's iterator
local macro_rules | `(tactic| walk_at "m_toIter") => `(tactic| repeat' ((fail_if_success (with_reducible show wpAny _ _ (pyIter _) _ _ _)); first | (k_unfold; (try dsimp only)) | walk1 | (dsimp only; walk1) | (leave1; walk_say "STEP leave1"; (try dsimp only)) | fail "no step"))
-- the same over clean stacks
local macro_rules | `(tactic| walk_at "m_enterC") => `(tactic| k_dflt (refine' codeC_def ?k1 ?k2 ?k3 ?k4 ?k5 ?kA ?kF ?kK ?k6 ?k7 ?k8 ?k9 ?kB ?_ ?c2 ?c3 ?c4 ?c5; (case kA => exact rfl); (case kF => exact rfl); (case kK => assumption); (case k1 => k_asm); (case k2 => k_asm); (case k3 => k_asm); (case k4 => k_asm); (case k5 => k_asm); (case k6 => k_is); (case k7 => k_is); (case k8 => ktr_room); (case k9 => (refine' kp_binds ?kx ?ke; (case kx => k_in); (case ke => exact fun _ => rfl))); (case c5 => decide); (case kB => exact locs rfl); (case c2 => exact rfl); (case c3 => exact rfl); (case c4 => exact rfl); k_whole; intro g' L' h' tk' FG' F' N' B' X' T'; (try dsimp only)))
-- the same for a def with cells
local macro_rules | `(tactic| walk_at "m_enterCells") => `(tactic| k_dflt (refine' code_defC ?k1 ?k2 ?k3 ?k4 ?k5 ?kA ?kF ?kK ?k6 ?k7 ?k8 ?k9 ?kB ?kD ?_ ?c2 ?c3 ?c4; (case kA => exact rfl); (case kF => exact rfl); (case kK => assumption); (case k1 => k_asm); (case k2 => k_asm); (case k3 => k_asm); (case k4 => k_asm); (case k5 => k_asm); (case k6 => k_is); (case k7 => k_is); (case k8 => ktr_room); (case k9 => (refine' kp_binds ?kx ?ke; (case kx => k_in); (case ke => exact fun _ => rfl))); (case kB => exact rfl); (case kD => decide +kernel); (case c2 => exact rfl); (case c3 => exact rfl); (case c4 => exact rfl); k_whole; intro g' L' h' tk' cells' FG' F' N' Y' B' X' T' l1; k_cells Y'; (try simp only [List.cons_append, List.nil_append] at N'); (try dsimp only); (try k_fold)))
-- an unwritten ledger tail lies off
local macro_rules | `(tactic| k_all) => `(tactic| first | assumption | exact lt_off (by assumption) | exact allLt_off (by assumption))
-- steps, up to a call of a def
local macro_rules | `(tactic| walk_at "m_toCall") => `(tactic| repeat' ((fail_if_success (with_reducible show wpAny _ _ (call (.ref _) _) _ _ _)); first | (k_unfold; (try dsimp only)) | walk1 | (dsimp only; walk1) | (leave1; walk_say "STEP leave1"; (try dsimp only)) | fail "no step"))
-- steps, up to an item's asking
local macro_rules | `(tactic| walk_at "m_toSub") => `(tactic| repeat' ((fail_if_success (with_reducible show wpAny _ _ (subscriptTail _ _ _ _) _ _ _)); first | (k_unfold; (try dsimp only)) | walk1 | (dsimp only; walk1) | (leave1; walk_say "STEP leave1"; (try dsimp only)) | fail "no step"))
/-- _byteswap's inner loop, after j turns -/
def inA (d : List UInt8) (wd i : Int) (acc : Array UInt8) : Nat → Array UInt8
  | 0 => acc
  | j + 1 => (inA d wd i acc j).setIfInBounds (i + wd - 1 - (0 + (j : Nat) * 1)).toNat (d.getD (i + (0 + (j : Nat) * 1)).toNat 0)
/-- _byteswap's outer loop, after k turns -/
def outA (d : List UInt8) (wd : Int) : Nat → Array UInt8
  | 0 => Array.replicate d.length 0
  | k + 1 => inA d wd (0 + (k : Nat) * wd) (outA d wd k) wd.toNat
theorem inA_size (d : List UInt8) (wd i : Int) (acc : Array UInt8) : ∀ j, (inA d wd i acc j).size = acc.size
  | 0 => rfl
  | j + 1 => by rw [inA, Array.size_setIfInBounds]; exact inA_size d wd i acc j
theorem outA_size (d : List UInt8) (wd : Int) : ∀ k, (outA d wd k).size = d.length
  | 0 => by rw [outA, Array.size_replicate]
  | k + 1 => by rw [outA, inA_size]; exact outA_size d wd k
theorem small_range {a b c : Int} (ha : 0 ≤ a) (ha1 : a ≤ 1000) (hb : b ≤ 1000) (hb0 : 0 ≤ b) (hc : 1 ≤ c) (hc1 : c ≤ 1000) : Builtin.Range.small a b c = true := by
  unfold Builtin.Range.small
  have hn : 0 ≤ Builtin.Range.rangeSize a b c ∧ Builtin.Range.rangeSize a b c ≤ 1001 := by
    unfold Builtin.Range.rangeSize
    rw [if_pos (by omega)]
    split
    · have h1 := Int.ediv_nonneg (show 0 ≤ b - a - 1 by omega) (show 0 ≤ c by omega)
      have h2 := Int.ediv_le_self c (show 0 ≤ b - a - 1 by omega)
      omega
    · omega
  simp only [Builtin.Range.rangeFitsLong, Bool.and_eq_true, Bool.or_eq_true, decide_eq_true_eq, beq_iff_eq, show c > 0 by omega, if_true]
  omega
theorem range_size {n : Nat} {c : Int} (hc : 1 ≤ c) : Builtin.Range.rangeSize 0 (n * c) c = (n : Int) := by
  unfold Builtin.Range.rangeSize
  rw [if_pos (by omega)]
  by_cases h : n = 0
  · subst h; simp
  · have h1 : 0 < (n : Int) * c := Int.mul_pos (by omega) (by omega)
    rw [if_pos h1]
    have e : (n : Int) * c - 0 - 1 = (c - 1) + ((n : Int) - 1) * c := by rw [Int.sub_mul]; omega
    rw [e, Int.add_mul_ediv_right _ _ (by omega), Int.ediv_eq_zero_of_lt (by omega) (by omega)]
    omega
theorem sub_ij (z : Str) (h : [Str.ofString "i", Str.ofString "j"].contains z = false) : [Str.ofString "j"].contains z = false := by
  simp only [List.contains_cons, Bool.or_eq_false_iff] at h
  simp only [List.contains_cons, Bool.or_eq_false_iff]
  exact h.2
theorem u8_back (x : UInt8) : ((x.toNat : Nat) : Int).toNat.toUInt8 = x := by
  show x.toNat.toUInt8 = x
  simp
theorem range_size1 {c : Int} (hc : 0 ≤ c) : Builtin.Range.rangeSize 0 c 1 = (c.toNat : Int) := by
  unfold Builtin.Range.rangeSize
  rw [if_pos (by omega)]
  split <;> omega
set_option maxRecDepth 100000 in
set_option maxHeartbeats 8000000 in
theorem swap_does (w : World) (d : List UInt8) (wd : Int) (td tw : Tok) (rest : List (Addr × Obj)) (n : Nat) (hw0 : 1 ≤ wd) (hw1 : wd ≤ 1000) (hd : (d.length : Int) = n * wd) (hd1 : d.length ≤ 1000) :
    DoesC 2 w 46 rest [.bytes d.toArray td, .int wd tw] fun r news' => ∃ t, r = .bytes (outA d wd n) t ∧ news' = rest := by
  unfold DoesC
  k_fill
  intro dp un gd cn cs a ccd cl outer A₀ base h₀ L m mg mb p loose mean s Q E B F X N T hk hdp hun hret
  refine wpC_call ?_
  walk_at "m_enterC"
  refine execsC_cons (assignC ?_)
  refine callEC ?_
  walk_at "m_steps"
  refine callWithC_type ?_
  refine argsC_cons (wpC_of ?_)
  walk_at "m_steps"
  refine argsC_nil ?_
  refine ba_make (by k_asm) (by k_asm) (by omega) (by rw [List.size_toArray]; omega) ?_
  intro D h2 F2 N2 hD2
  dsimp only
  walk_at "m_steps"
  refine wpC_of ?_
  walk_at "m_toIter"
  rename IsRange _ _ _ _ _ _ _ _ => hR
  rename News _ _ _ _ => hN
  rename Fr _ _ _ _ => hF
  have hn0 : 0 < n ∨ n = 0 := by omega
  have e9 : ((d.toArray.size : Nat) : Int) = n * wd := by rw [List.size_toArray]; exact hd
  rw [e9] at hR
  refine one_for (n := n) (fun k => baObj (outA d wd k)) [Str.ofString "i", Str.ofString "j"] (by rfl) hR (small_range (by omega) (by omega) (by omega) (by omega) (by omega) (by omega)) (range_size hw0) hF hN (lt_off hD2) ?_ ?_
  · intro k t u hk tk own hkn hoff Fk Nk
    have hi0 : 0 ≤ 0 + (k : Int) * wd := by have := Int.mul_nonneg (Int.natCast_nonneg k) (show 0 ≤ wd by omega); omega
    have hi1 : 0 + (k : Int) * wd + wd ≤ d.length := by
      have : ((k : Int) + 1) * wd ≤ n * wd := Int.mul_le_mul_of_nonneg_right (by omega) (by omega)
      rw [Int.add_mul] at this
      omega
    dsimp only [outA]
    have hsz := outA_size d wd k
    generalize outA d wd k = acc at hsz Nk ⊢
    generalize 0 + (k : Int) * wd = i at hi0 hi1 Fk ⊢
    walk_at "m_toIter"
    rename IsRange _ _ _ _ _ _ _ _ => hR2
    rename News _ _ _ _ => hN2
    rename Fr _ _ _ _ => hF2
    refine one_for (n := wd.toNat) (fun j => baObj (inA d wd i acc j)) [Str.ofString "j"] (by rfl) hR2 (small_range (by omega) (by omega) (by omega) (by omega) (by omega) (by omega)) (range_size1 (by omega)) hF2 hN2 hoff ?_ ?_
    · intro j t2 u2 hk2 tk2 own2 hj hoff2 F3 N3
      have hj0 : 0 ≤ 0 + (j : Int) * 1 := by omega
      have hj1 : 0 + (j : Int) * 1 < wd := by omega
      have hsz2 := inA_size d wd i acc j
      dsimp only [inA]
      generalize inA d wd i acc j = acc2 at hsz2 N3 ⊢
      generalize 0 + (j : Int) * 1 = jj at hj0 hj1 F3 ⊢
      have hlen : d.length ≤ 1099511627776 := by omega
      k_with "subscriptTail Name BinOp bytes int" => (refine KBy.item_N hlen (by omega) (by omega) ?_)
      k_with "setItem ref int" => (refine ba_set (by k_asm) (by k_asm) (.head hoff2) (by omega) (by omega) (by omega) (by omega) (by have := UInt8.toNat_lt (d.getD (i + jj).toNat 0); omega) ?_; intro h5 F5 N5; (try dsimp only))
      walk_at "m_steps"
      rename News _ _ _ _ => N5
      rename Fr _ _ _ _ => F5
      rw [u8_back] at N5
      exact ⟨rfl, _, _, _, rfl, F5, Same.put (by decide) (Same.mix (fun _ h => h) (Same.refl _ _)), N5⟩
    · intro u2 hk2 tk2 F3 N3
      walk_at "m_steps"
      exact ⟨rfl, _, _, _, rfl, F3, Same.mix sub_ij (Same.put (by decide) (Same.mix (fun _ h => h) (Same.refl _ _))), N3⟩
  · intro u hk tk Fk Nk
    walk_at "m_steps"
    rename News _ _ _ _ => N6
    refine ba_bytes (N6 _ (.head _)).1 (by rw [outA_size]; exact hd1) ?_
    intro t6 k6
    dsimp only
    walk_at "m_steps"
    k_with_none
    exact hret _ _ _ _ (by k_asm) (cb_drop (by assumption) (fun p hp => .tail _ hp)) ⟨_, rfl, rfl⟩
end Mine
end

section
theorem Mine.freshVar : True := by
  w_top off
  trivial
open PySem PySem.W PyProof.Rows
namespace Mine
-- words of one's own are asked first
local macro_rules | `(tactic| walk_at $s:str) => `(tactic| k_extra $s)
-- the def's body is entered
local macro_rules | `(tactic| walk_at "m_enter") => `(tactic| k_dflt (refine' code_def ?k1 ?k2 ?k3 ?k4 ?k5 ?kA ?kF ?kK ?k6 ?k7 ?k8 ?k9 ?kB ?_ ?c2 ?c3 ?c4 ?c5; (case kA => exact rfl); (case kF => exact rfl); (case kK => assumption); (case k1 => k_asm); (case k2 => k_asm); (case k3 => k_asm); (case k4 => k_asm); (case k5 => k_asm); (case k6 => k_is); (case k7 => k_is); (case k8 => ktr_room); (case k9 => (refine' kp_binds ?kx ?ke; (case kx => k_in); (case ke => exact fun _ => rfl))); (case c5 => decide); (case kB => exact locs rfl); (case c2 => exact rfl); (case c3 => exact rfl); (case c4 => exact rfl); k_whole; intro g' L' h' FG' F' N' B' X' T'; (try dsimp only); (try k_fold)))
-- steps, as far as they go
local macro_rules | `(tactic| walk_at "m_steps") => `(tactic| repeat' (first | (k_unfold; (try dsimp only)) | walk1 | (dsimp only; walk1) | (leave1; walk_say "STEP leave1"; (try dsimp only)) | fail "no step"))
-- a contract's premises at a call
local macro_rules | `(tactic| walk_at "m_use") => `(tactic| ((case k1 => k_asm); (case k2 => k_asm); (case k3 => k_asm); (case k5 => k_asm); (case kK => first | exact rfl | assumption); (case kd => ((simp only [Around.deeper, ktrTop] at *); omega)); (case ku => ((simp only [Around.deeper, ktrTop] at *); omega))))
local macro_rules | `(tactic| units_room) => `(tactic| (simp only [units_in1, units_deeper, Around.mark_units, ktrTop]; omega))
-- a turn's end over a ledger with an unwritten tail
local macro_rules | `(tactic| walk_at "UnrEnd") => `(tactic| (refine UnrEnd.intro (by assumption) (by assumption) _ (fun p hp => hp) (by first | exact lt_off (by assumption) | exact allLt_off (by assumption)) ?_))
-- steps, up to a loop's iterator
local macro_rules | `(tactic| walk_at "m_toIter") => `(tactic| repeat' ((fail_if_success (with_reducible show wpAny _ _ (pyIter _) _ _ _)); first | (k_unfold; (try dsimp only)) | walk1 | (dsimp only; walk1) | (leave1; walk_say "STEP leave1"; (try dsimp only)) | fail "no step"))
-- the same over clean stacks
local macro_rules | `(tactic| walk_at "m_enterC") => `(tactic| k_dflt (refine' codeC_def ?k1 ?k2 ?k3 ?k4 ?k5 ?kA ?kF ?kK ?k6 ?k7 ?k8 ?k9 ?kB ?_ ?c2 ?c3 ?c4 ?c5; (case kA => exact rfl); (case kF => exact rfl); (case kK => assumption); (case k1 => k_asm); (case k2 => k_asm); (case k3 => k_asm); (case k4 => k_asm); (case k5 => k_asm); (case k6 => k_is); (case k7 => k_is); (case k8 => ktr_room); (case k9 => (refine' kp_binds ?kx ?ke; (case kx => k_in); (case ke => exact fun _ => rfl))); (case c5 => decide); (case kB => exact locs rfl); (case c2 => exact rfl); (case c3 => exact rfl); (case c4 => exact rfl); k_whole; intro g' L' h' tk' FG' F' N' B' X' T'; (try dsimp only)))
-- the same for a def with cells
local macro_rules | `(tactic| walk_at "m_enterCells") => `(tactic| k_dflt (refine' code_defC ?k1 ?k2 ?k3 ?k4 ?k5 ?kA ?kF ?kK ?k6 ?k7 ?k8 ?k9 ?kB ?kD ?_ ?c2 ?c3 ?c4; (case kA => exact rfl); (case kF => exact rfl); (case kK => assumption); (case k1 => k_asm); (case k2 => k_asm); (case k3 => k_asm); (case k4 => k_asm); (case k5 => k_asm); (case k6 => k_is); (case k7 => k_is); (case k8 => ktr_room); (case k9 => (refine' kp_binds ?kx ?ke; (case kx => k_in); (case ke => exact fun _ => rfl))); (case kB => exact rfl); (case kD => decide +kernel); (case c2 => exact rfl); (case c3 => exact rfl); (case c4 => exact rfl); k_whole; intro g' L' h' tk' cells' FG' F' N' Y' B' X' T' l1; k_cells Y'; (try simp only [List.cons_append, List.nil_append] at N'); (try dsimp only); (try k_fold)))
-- an unwritten ledger tail lies off
local macro_rules | `(tactic| k_all) => `(tactic| first | assumption | exact lt_off (by assumption) | exact allLt_off (by assumption))
-- steps, up to a call of a def
local macro_rules | `(tactic| walk_at "m_toCall") => `(tactic| repeat' ((fail_if_success (with_reducible show wpAny _ _ (call (.ref _) _) _ _ _)); first | (k_unfold; (try dsimp only)) | walk1 | (dsimp only; walk1) | (leave1; walk_say "STEP leave1"; (try dsimp only)) | fail "no step"))
-- steps, up to an item's asking
local macro_rules | `(tactic| walk_at "m_toSub") => `(tactic| repeat' ((fail_if_success (with_reducible show wpAny _ _ (subscriptTail _ _ _ _) _ _ _)); first | (k_unfold; (try dsimp only)) | walk1 | (dsimp only; walk1) | (leave1; walk_say "STEP leave1"; (try dsimp only)) | fail "no step"))
/-- the octet at i + k -/
def vX (b : Array UInt8) (i k : Nat) : Int := ((b.getD (i + k) 0).toNat : Int)
/-- _parse_varint's value after k octets more -/
def vY (b : Array UInt8) (i : Nat) : Nat → Int
  | 0 => Builtin.bitAnd (vX b i 0) 63
  | k + 1 => Builtin.bitOr (vY b i k * 2 ^ (6 : Int).toNat) (Builtin.bitAnd (vX b i (k + 1)) 63)
theorem getD_some {b : Array UInt8} {i : Nat} (h : i < b.size) : b[i]? = some (b.getD i 0) := by
  rw [Array.getElem?_eq_getElem h, Array.getD_eq_getD_getElem?, Array.getElem?_eq_getElem h]; rfl
theorem vX_in (b : Array UInt8) (i k : Nat) : 0 ≤ vX b i k ∧ vX b i k < 256 := by
  have := UInt8.toNat_lt (b.getD (i + k) 0)
  unfold vX; omega
set_option maxRecDepth 100000 in
set_option maxHeartbeats 8000000 in
theorem varint_does (w : World) (I : Addr) (b : Array UInt8) (tb : Tok) (i n : Nat) (rest : List (Addr × Obj)) (hr : ∀ p ∈ rest, p.1 ≠ I) (hn : i + n < b.size)
    (hc : ∀ k, k < n → Builtin.bitAnd (vX b i k) 64 ≠ 0) (hz : Builtin.bitAnd (vX b i n) 64 = 0) (hY : ∀ k, k ≤ n → 0 ≤ vY b i k ∧ vY b i k ≤ 1000000000) :
    Does 2 w 21 ((I, itObj b tb i) :: rest) [.ref I] fun r news' => ∃ t, r = .int (vY b i n) t ∧ news' = (I, itObj b tb (i + n + 1)) :: rest := by
  unfold Does
  k_fill
  intro dp un gd cn cs a ccd cl outer A₀ base h₀ L m mg mb p loose mean s Q E B F X N T hk hdp hun hret
  refine wpAny_call ?_
  walk_at "m_enter"
  k_with "call builtin:next" => (refine' it_next ?k1 ?k2 (.head ?k3) (getD_some ?k4) ?_; (case k1 => k_asm); (case k2 => k_asm); (case k3 => assumption); (case k4 => omega); intro h5 tk5 F5 N5; (try dsimp only))
  k_with "exec While BinOp" => (refine' while_two (x := Str.ofString "b") (y := Str.ofString "val") (fun k => itObj b tb (i + k + 1)) (vX b i) (vY b i) n ?k1 ?k2 ?k3 ?k4 ?_; (case k1 => k_asm); (case k2 => assumption); (case k3 => exact rfl); (case k4 => exact rfl); intro k tx ty h6 tk6 hk6 F6 N6; have hYk := hY k hk6; have hck := hc k; have hXk := vX_in b i k; have hzk : k = n → Builtin.bitAnd (vX b i k) 64 = 0 := (fun e => e ▸ hz))
  k_with "inplaceOp LShift int int" => ((refine ilshift_int_small (by decide) (by decide) ?zzb ?_); (case zzb => omega))
  walk_at "m_steps"
  · omega
  · rename News _ _ _ _ => N7
    rename Fr _ _ _ _ => F7
    exact ⟨rfl, _, _, _, _, _, rfl, F7, rfl, rfl, (fun z h1 h2 => by simp only [if_neg h1, if_neg h2]), N7⟩
  · have hkn : k = n := by omega
    subst hkn
    k_with_none
    exact hret _ _ _ _ (by k_asm) (by k_asm) ⟨_, rfl, rfl⟩
end Mine
end

section
theorem Mine.freshTape : True := by
  w_top off
  trivial
open PySem PySem.W PyProof.Rows
namespace Mine
-- words of one's own are asked first
local macro_rules | `(tactic| walk_at $s:str) => `(tactic| k_extra $s)
-- the def's body is entered
local macro_rules | `(tactic| walk_at "m_enter") => `(tactic| k_dflt (refine' code_def ?k1 ?k2 ?k3 ?k4 ?k5 ?kA ?kF ?kK ?k6 ?k7 ?k8 ?k9 ?kB ?_ ?c2 ?c3 ?c4 ?c5; (case kA => exact rfl); (case kF => exact rfl); (case kK => assumption); (case k1 => k_asm); (case k2 => k_asm); (case k3 => k_asm); (case k4 => k_asm); (case k5 => k_asm); (case k6 => k_is); (case k7 => k_is); (case k8 => ktr_room); (case k9 => (refine' kp_binds ?kx ?ke; (case kx => k_in); (case ke => exact fun _ => rfl))); (case c5 => decide); (case kB => exact locs rfl); (case c2 => exact rfl); (case c3 => exact rfl); (case c4 => exact rfl); k_whole; intro g' L' h' FG' F' N' B' X' T'; (try dsimp only); (try k_fold)))
-- steps, as far as they go
local macro_rules | `(tactic| walk_at "m_steps") => `(tactic| repeat' (first | (k_unfold; (try dsimp only)) | walk1 | (dsimp only; walk1) | (leave1; walk_say "STEP leave1"; (try dsimp only)) | fail "no step"))
-- a contract's premises at a call
local macro_rules | `(tactic| walk_at "m_use") => `(tactic| ((case k1 => k_asm); (case k2 => k_asm); (case k3 => k_asm); (case k5 => k_asm); (case kK => first | exact rfl | assumption); (case kd => ((simp only [Around.deeper, ktrTop] at *); omega)); (case ku => ((simp only [Around.deeper, ktrTop] at *); omega))))
local macro_rules | `(tactic| units_room) => `(tactic| (simp only [units_in1, units_deeper, Around.mark_units, ktrTop]; omega))
-- a turn's end over a ledger with an unwritten tail
local macro_rules | `(tactic| walk_at "UnrEnd") => `(tactic| (refine UnrEnd.intro (by assumption) (by assumption) _ (fun p hp => hp) (by first | exact lt_off (by assumption) | exact allLt_off (by assumption)) ?_))
-- steps, up to a loop's iterator
local macro_rules | `(tactic| walk_at "m_toIter") => `(tactic| repeat' ((fail_if_success (with_reducible show wpAny _ _ (pyIter _) _ _ _)); first | (k_unfold; (try dsimp only)) | walk1 | (dsimp only; walk1) | (leave1; walk_say "STEP leave1"; (try dsimp only)) | fail "no step"))
-- the same over clean stacks
local macro_rules | `(tactic| walk_at "m_enterC") => `(tactic| k_dflt (refine' codeC_def ?k1 ?k2 ?k3 ?k4 ?k5 ?kA ?kF ?kK ?k6 ?k7 ?k8 ?k9 ?kB ?_ ?c2 ?c3 ?c4 ?c5; (case kA => exact rfl); (case kF => exact rfl); (case kK => assumption); (case k1 => k_asm); (case k2 => k_asm); (case k3 => k_asm); (case k4 => k_asm); (case k5 => k_asm); (case k6 => k_is); (case k7 => k_is); (case k8 => ktr_room); (case k9 => (refine' kp_binds ?kx ?ke; (case kx => k_in); (case ke => exact fun _ => rfl))); (case c5 => decide); (case kB => exact locs rfl); (case c2 => exact rfl); (case c3 => exact rfl); (case c4 => exact rfl); k_whole; intro g' L' h' tk' FG' F' N' B' X' T'; (try dsimp only)))
-- the same for a def with cells
local macro_rules | `(tactic| walk_at "m_enterCells") => `(tactic| k_dflt (refine' code_defC ?k1 ?k2 ?k3 ?k4 ?k5 ?kA ?kF ?kK ?k6 ?k7 ?k8 ?k9 ?kB ?kD ?_ ?c2 ?c3 ?c4; (case kA => exact rfl); (case kF => exact rfl); (case kK => assumption); (case k1 => k_asm); (case k2 => k_asm); (case k3 => k_asm); (case k4 => k_asm); (case k5 => k_asm); (case k6 => k_is); (case k7 => k_is); (case k8 => ktr_room); (case k9 => (refine' kp_binds ?kx ?ke; (case kx => k_in); (case ke => exact fun _ => rfl))); (case kB => exact rfl); (case kD => decide +kernel); (case c2 => exact rfl); (case c3 => exact rfl); (case c4 => exact rfl); k_whole; intro g' L' h' tk' cells' FG' F' N' Y' B' X' T' l1; k_cells Y'; (try simp only [List.cons_append, List.nil_append] at N'); (try dsimp only); (try k_fold)))
-- an unwritten ledger tail lies off
local macro_rules | `(tactic| k_all) => `(tactic| first | assumption | exact lt_off (by assumption) | exact allLt_off (by assumption))
-- steps, up to a call of a def
local macro_rules | `(tactic| walk_at "m_toCall") => `(tactic| repeat' ((fail_if_success (with_reducible show wpAny _ _ (call (.ref _) _) _ _ _)); first | (k_unfold; (try dsimp only)) | walk1 | (dsimp only; walk1) | (leave1; walk_say "STEP leave1"; (try dsimp only)) | fail "no step"))
-- steps, up to an item's asking
local macro_rules | `(tactic| walk_at "m_toSub") => `(tactic| repeat' ((fail_if_success (with_reducible show wpAny _ _ (subscriptTail _ _ _ _) _ _ _)); first | (k_unfold; (try dsimp only)) | walk1 | (dsimp only; walk1) | (leave1; walk_say "STEP leave1"; (try dsimp only)) | fail "no step"))
theorem Same.putSame {stored : List Str} {m₀ m₁ : Str → Option Value} {x : Str} {v : Option Value} (hx : m₀ x = v) (a : Same stored m₀ m₁) : Same stored m₀ (fun y => if y = x then v else m₁ y) := fun z h => by
  show (if z = x then v else m₁ z) = m₀ z
  by_cases e : z = x
  · rw [if_pos e, e, hx]
  · rw [if_neg e]; exact a z h
/-- one turn's square, as _law_tape has it -/
def sqOf (pr fa k : Int) : Int := ((k * fa).fmod pr) ^ (2 : Int).toNat
/-- its digits to the base 64, the lowest first -/
def digL (wd q : Int) : List Int := List.map (fun k' => (q.fdiv (64 ^ k'.toNat)).fmod 64) (rangeKs 0 (wd - 0).toNat)
/-- _law_tape's list after i turns -/
def tapeL (wd pr fa : Int) : Nat → List Int
  | 0 => []
  | i + 1 => (tapeL wd pr fa i ++ [(digL wd (sqOf pr fa (1 + (i : Nat) * 1))).getD (0 : Int).toNat 0 + (1 + (i : Nat) * 1 : Int).fmod 2 * 128]) ++
    (List.map (fun d => d + 64) (((digL wd (sqOf pr fa (1 + (i : Nat) * 1))).drop (1 : Int).toNat).take ((digL wd (sqOf pr fa (1 + (i : Nat) * 1))).length - (- (-1 : Int)).toNat - (1 : Int).toNat)) ++
      [(digL wd (sqOf pr fa (1 + (i : Nat) * 1))).getD ((digL wd (sqOf pr fa (1 + (i : Nat) * 1))).length - 1) 0 + 192])
theorem digL_len (wd q : Int) : (digL wd q).length = wd.toNat := by
  unfold digL
  rw [List.length_map, rangeKs_length]; omega
theorem tapeL_len (wd pr fa : Int) (h : 2 ≤ wd) : ∀ i, (tapeL wd pr fa i).length = i * wd.toNat
  | 0 => by simp [tapeL]
  | i + 1 => by
    rw [tapeL, List.length_append, List.length_append, List.length_append, List.length_map, List.length_take, List.length_drop, tapeL_len wd pr fa h i, digL_len, Nat.add_mul]
    simp only [List.length_cons, List.length_nil]
    omega
theorem fmod_in (x : Int) {p : Int} (h : 0 < p) : 0 ≤ x.fmod p ∧ x.fmod p < p := by
  rw [Int.fmod_eq_emod_of_nonneg _ (by omega)]; exact ⟨Int.emod_nonneg _ (by omega), Int.emod_lt_of_pos _ h⟩
theorem digL_in {wd q : Int} {d : Int} (h : d ∈ digL wd q) : 0 ≤ d ∧ d < 64 := by
  obtain ⟨k, _, rfl⟩ := List.mem_map.mp h
  exact fmod_in _ (by decide)
theorem getD_in0 {l : List Int} (h : ∀ d ∈ l, 0 ≤ d ∧ d < 64) (i : Nat) : 0 ≤ l.getD i 0 ∧ l.getD i 0 < 64 := by
  rw [List.getD_eq_getElem?_getD]
  cases e : l[i]? with
  | none => exact ⟨by decide, by decide⟩
  | some v => exact h v (List.mem_of_getElem? e)
theorem tapeL_in (wd pr fa : Int) : ∀ i, ∀ n ∈ tapeL wd pr fa i, 0 ≤ n ∧ n < 256
  | 0 => fun n h => by simp [tapeL] at h
  | i + 1 => fun n h => by
    rw [tapeL] at h
    rcases List.mem_append.mp h with h | h
    · rcases List.mem_append.mp h with h | h
      · exact tapeL_in wd pr fa i n h
      · rw [List.mem_singleton.mp h]
        have h1 := getD_in0 (fun d => digL_in (d := d) (wd := wd) (q := sqOf pr fa (1 + (i : Nat) * 1))) (0 : Int).toNat
        have h2 := fmod_in (1 + (i : Nat) * 1 : Int) (show (0 : Int) < 2 by decide)
        omega
    · rcases List.mem_append.mp h with h | h
      · obtain ⟨d, hd, rfl⟩ := List.mem_map.mp h
        have := digL_in (List.mem_of_mem_drop (List.mem_of_mem_take hd))
        omega
      · rw [List.mem_singleton.mp h]
        have h1 := getD_in0 (fun d => digL_in (d := d) (wd := wd) (q := sqOf pr fa (1 + (i : Nat) * 1))) ((digL wd (sqOf pr fa (1 + (i : Nat) * 1))).length - 1)
        omega
theorem pow64_ok {k : Int} (h : k < 5) : (64 : Int) ^ k.toNat ≠ 0 ∧ ((64 : Int) ^ k.toNat).natAbs < 1073741824 := by
  have h5 : k.toNat < 5 := by omega
  generalize k.toNat = n at h5
  revert n
  decide
theorem dig_len (g : Int → Int) {wd : Int} (h : wd ≤ 4) : (List.map g (rangeKs 0 (wd - 0).toNat)).length ≤ 4 := by
  rw [List.length_map, rangeKs_length]; omega
theorem dig_size {g : Int → Int} {wd : Int} {vs : List Value} (hi : IntsAre vs (List.map g (rangeKs 0 (wd - 0).toNat))) (h : wd ≤ 4) : vs.toArray.size ≤ sizeLine :=
  small_fits (by have := IntsAre.length hi; have := dig_len g h; simp; omega)
theorem dig_cut {g : Int → Int} {wd : Int} {a b : Nat} (h : wd ≤ 4) : (List.take a (List.drop b (List.map g (rangeKs 0 (wd - 0).toNat)))).length ≤ sizeLine :=
  small_fits (by have := dig_len g h; rw [List.length_take, List.length_drop]; omega)
/-- _law_tape's octets -/
def tapeB (wd pr fa : Int) : Array UInt8 := ((tapeL wd pr fa (pr.fdiv 2 + 1 - 1).toNat).map fun n => n.toNat.toUInt8).toArray
set_option maxRecDepth 100000 in
set_option maxHeartbeats 8000000 in
theorem tape_does (w : World) (pr fa wd : Int) (tp tf tw : Tok) (rest : List (Addr × Obj)) (hp0 : 3 ≤ pr) (hp1 : pr ≤ 100) (hf0 : 1 ≤ fa) (hf1 : fa ≤ 100) (hw0 : 2 ≤ wd) (hw1 : wd ≤ 4) :
    Does 2 w 51 rest [.int pr tp, .int fa tf, .int wd tw] fun r news' => ∃ t, r = .bytes (tapeB wd pr fa) t ∧ news' = rest := by
  unfold Does
  k_fill
  intro dp un gd cn cs a ccd cl outer A₀ base h₀ L m mg mb p loose mean s Q E B F X N T hk hdp hun hret
  refine wpAny_call ?_
  walk_at "m_enterCells"
  walk_at "m_toIter"
  rename IsRange _ _ _ _ _ _ _ _ => hR
  rename News _ _ _ _ => hN
  rename Fr _ _ _ _ => hF
  rename _ < _ ∧ AllLt _ _ => hlt
  rename Obj.data _ = _ => hdc
  rename ∀ p ∈ rest, _ => hl0
  have hb : 0 ≤ pr.fdiv 2 + 1 - 1 ∧ pr.fdiv 2 + 1 - 1 ≤ 50 := by
    rw [Int.fdiv_eq_ediv_of_nonneg _ (by decide)]; omega
  refine tape_for (n := (pr.fdiv 2 + 1 - 1).toNat) (vs₀ := []) (tapeL wd pr fa) [Str.ofString "turn", Str.ofString "digits", Str.ofString "place", Str.ofString "digit"] (by rfl) hR (small_range (by omega) (by omega) (by omega) (by omega) (by omega) (by omega)) ?_ hF hN .nil hdc (allLt_off hlt.2) ?_ ?_ ?_
  · unfold Builtin.Range.rangeSize
    rw [if_pos (by decide)]
    split <;> omega
  · exact fun p hp => Nat.ne_of_lt (Nat.lt_succ_of_lt (hl0 p hp))
  · intro k t u hk tk own vs e oc v hkn hvs hoc hS hC Fk Nk
    have hlen := tapeL_len wd pr fa hw0 k
    dsimp only [tapeL]
    have hkk : 1 ≤ 1 + (k : Int) * 1 ∧ 1 + (k : Int) * 1 ≤ 50 := by omega
    generalize 1 + (k : Int) * 1 = kk at hkk Fk ⊢
    have hq := fmod_in (kk * fa) (show 0 < pr by omega)
    have hlt1 := hlt.1
    have hlk : k * wd.toNat ≤ 200 := Nat.le_trans (Nat.mul_le_mul (show k ≤ 50 by omega) (show wd.toNat ≤ 4 by omega)) (by decide)
    k_with "binaryOp Pow int int" => ((refine pow_int_small (by decide) (by decide) ?zzb ?_); (case zzb => omega); (try dsimp only))
    k_with "binaryOp FloorDiv int int" => ((refine floordiv_int (pow64_ok ?zzb).1 ?_ (Or.inl (PyProof.noPylong_small (pow64_ok ?zzb).2))); (case zzb => omega); (try dsimp only))
    k_with "subscriptTail Name Slice ref ref" => (k_dflt (refine' kmk_slice_ints ?zzF ?zzN ?zzl ?zzp ?zzq ?zzi ?zzm ?zzc ?_ ?zzs ?zzt ?zzz; (case zzF => k_asm); (case zzN => k_asm); (case zzl => exact News.isList (by k_asm) (by k_mem)); (case zzp => exact IsPart.int _ _); (case zzq => exact IsPart.int _ _); (case zzi => assumption); (case zzm => exact kmk_run_neg (by assumption) (by decide) (by decide)); (case zzc => exact rfl); (case zzs => with_unfolding_all rfl); (case zzt => (intro _; with_unfolding_all rfl)); (case zzz => exact dig_size ‹IntsAre _ (List.map _ (rangeKs 0 (wd - 0).toNat))› hw1)); intro D' ws' h' F' N' l1 hI' hC' hL'; (try k_lt l1); (try k_sweep))
    k_with "pyIter ref" => (k_dflt (refine' comp_ints (f := fun d => d + 64) ?zzh ?zzl ?zzi ?zzF ?zzN ?zzs ?zzt ?_; (case zzh => exact rfl); (case zzl => exact News.isList (by k_asm) (by k_mem)); (case zzi => assumption); (case zzF => k_asm); (case zzN => k_asm); (case zzs => (refine dig_cut ?zzw; (case zzw => omega))); (case zzt => (intro C a t s₂ m₂ E' ha hns hx ht; with_reducible refine wpAny_leafK ?_; walk_at "m_steps")); intro D9 e9 ys9 h9 tk9 F9 N9 l9 hI9; (have l91 := neN (l9 _ (.head _))); (have l92 := neN (l9 _ (.tail _ (.head _)))); (have l93 := neN (l9 _ (.tail _ (.tail _ (.head _))))); (have l94 := neN (l9 _ (.tail _ (.tail _ (.tail _ (.head _)))))); dsimp only at l91 l92 l93 l94))
    k_with "subscriptTail Name UnaryOp ref int" => (refine' item_neg1 (ns := List.map _ (rangeKs 0 (wd - 0).toNat)) ?zzl ?zzi ?zzn ?_ ?zzs; (case zzl => exact News.isList (by k_asm) (by k_mem)); (case zzi => assumption); (case zzn => (rw [List.length_map, rangeKs_length]; omega)); (case zzs => with_unfolding_all rfl); intro t9)
    k_with "subscriptTail Name Constant ref int" => (refine' item_anyK (ns := List.map _ (rangeKs 0 (wd - 0).toNat)) ?zzl ?zzi ?zz0 ?zzn ?zzf ?_ ?zzs; (case zzl => exact News.isList (by k_asm) (by k_mem)); (case zzi => assumption); (case zz0 => decide); (case zzf => decide); (case zzn => (rw [List.length_map, rangeKs_length]; omega)); (case zzs => with_unfolding_all rfl); intro t9)
    k_with "inplaceOp Add ref ref" => (k_dflt (refine' list_iadd ?zzF ?zzN ?zzb ?zzn ?zze ?zzU ?zzy ?zzz ?_; (case zzF => k_asm); (case zzN => k_asm); (case zzb => k_mem); (case zzU => k_upd); (case zze => exact congrArg (· ++ _) (Array.toList_push ..)); (case zzn => (rw [IntsAre.length ‹IntsAre _ (_ ++ [_])›, List.length_append]; simp)); (case zzy => (rw [Array.size_push, List.size_toArray, IntsAre.length hvs]; omega)); (case zzz => (rw [IntsAre.length ‹IntsAre _ (_ ++ [_])›]; (have hd4 := dig_len (fun k' => (((kk * fa).fmod pr ^ (2 : Int).toNat).fdiv (64 ^ k'.toNat)).fmod 64) hw1); (simp only [List.length_append, List.length_map, List.length_take, List.length_drop, List.length_cons, List.length_nil, rangeKs_length] at *); omega))); intro h5 F5 N5; (try dsimp only))
    k_with "binaryOp Add ref ref" => (k_dflt (refine' kmk_add_ints ?zzF ?zzN ?zza ?zzb ?zzi ?zzj ?_ ?zzz; (case zzF => k_asm); (case zzN => k_asm); (case zza => kmk_list); (case zzb => kmk_list); (case zzi => with_reducible assumption); (case zzj => exact .cons _ _ .nil); (case zzz => (refine small_fits ?_; have hd4 := dig_len (fun k' => (((kk * fa).fmod pr ^ (2 : Int).toNat).fdiv (64 ^ k'.toNat)).fmod 64) hw1; (simp only [List.length_map, List.length_take, List.length_drop, List.length_cons, List.length_nil, rangeKs_length] at *); omega))); intro D' ws' h' F' N' l1 hI'; (try k_lt l1); (try k_sweep))
    walk_at "m_steps"
    rename News _ _ _ _ => N7
    rename Fr _ _ _ _ => F7
    exact ⟨rfl, _, _, _, _, _, rfl, ⟨_, _, _, _, rfl, by assumption, IntsAre.append (IntsAre.append hvs (.cons _ _ .nil)) (by assumption)⟩, rfl, F7, Same.putSame rfl (Same.put (by decide) (Same.put (by decide) (Same.mix (fun _ h => h) (Same.refl _ _)))), N7,
      (fun p hp => by rcases List.mem_cons.mp hp with rfl | hp; (· exact .tail _ (.tail _ (.tail _ (.tail _ (.tail _ (.head _)))))); (· rw [List.mem_singleton.mp hp]; exact .tail _ (.tail _ (.tail _ (.tail _ (.tail _ (.tail _ (.head _)))))))),
      (fun p hp => .tail _ (.tail _ (.tail _ (.tail _ (.tail _ (.tail _ (.tail _ hp)))))))⟩
  · intro u hk tk vs e oc v hvs hoc Fk Nk
    have hlen := tapeL_len wd pr fa hw0 (pr.fdiv 2 + 1 - 1).toNat
    have hlk : (pr.fdiv 2 + 1 - 1).toNat * wd.toNat ≤ 200 := Nat.le_trans (Nat.mul_le_mul (show (pr.fdiv 2 + 1 - 1).toNat ≤ 50 by omega) (show wd.toNat ≤ 4 by omega)) (by decide)
    k_with "call type:bytes" => (k_dflt (refine' bytes_K ?zzF ?zzN ?zzl ?zzi ?zzr ?zzz ?zzh ?_; (case zzF => k_asm); (case zzN => k_asm); (case zzl => exact News.isList (by k_asm) (by k_mem)); (case zzi => exact hvs); (case zzr => exact tapeL_in _ _ _ _); (case zzz => exact small_fits (by rw [IntsAre.length hvs]; omega)); (case zzh => exact rfl); intro h5 t5 k5 F5 N5 _; (try dsimp only)))
    walk_at "m_steps"
    k_with_none
    exact hret _ _ _ _ (by k_asm) (cb_drop (by assumption) (fun p hp => .tail _ (.tail _ hp))) ⟨_, rfl, rfl⟩
end Mine
end

section
theorem Mine.freshRes : True := by
  w_top off
  trivial
open PySem PySem.W PyProof.Rows
namespace Mine
-- words of one's own are asked first
local macro_rules | `(tactic| walk_at $s:str) => `(tactic| k_extra $s)
-- the def's body is entered
local macro_rules | `(tactic| walk_at "m_enter") => `(tactic| k_dflt (refine' code_def ?k1 ?k2 ?k3 ?k4 ?k5 ?kA ?kF ?kK ?k6 ?k7 ?k8 ?k9 ?kB ?_ ?c2 ?c3 ?c4 ?c5; (case kA => exact rfl); (case kF => exact rfl); (case kK => assumption); (case k1 => k_asm); (case k2 => k_asm); (case k3 => k_asm); (case k4 => k_asm); (case k5 => k_asm); (case k6 => k_is); (case k7 => k_is); (case k8 => ktr_room); (case k9 => (refine' kp_binds ?kx ?ke; (case kx => k_in); (case ke => exact fun _ => rfl))); (case c5 => decide); (case kB => exact locs rfl); (case c2 => exact rfl); (case c3 => exact rfl); (case c4 => exact rfl); k_whole; intro g' L' h' FG' F' N' B' X' T'; (try dsimp only); (try k_fold)))
-- steps, as far as they go
local macro_rules | `(tactic| walk_at "m_steps") => `(tactic| repeat' (first | (k_unfold; (try dsimp only)) | walk1 | (dsimp only; walk1) | (leave1; walk_say "STEP leave1"; (try dsimp only)) | fail "no step"))
-- a contract's premises at a call
local macro_rules | `(tactic| walk_at "m_use") => `(tactic| ((case k1 => k_asm); (case k2 => k_asm); (case k3 => k_asm); (case k5 => k_asm); (case kK => first | exact rfl | assumption); (case kd => ((simp only [Around.deeper, ktrTop] at *); omega)); (case ku => ((simp only [Around.deeper, ktrTop] at *); omega))))
local macro_rules | `(tactic| units_room) => `(tactic| (simp only [units_in1, units_deeper, Around.mark_units, ktrTop]; omega))
-- a turn's end over a ledger with an unwritten tail
local macro_rules | `(tactic| walk_at "UnrEnd") => `(tactic| (refine UnrEnd.intro (by assumption) (by assumption) _ (fun p hp => hp) (by first | exact lt_off (by assumption) | exact allLt_off (by assumption)) ?_))
-- steps, up to a loop's iterator
local macro_rules | `(tactic| walk_at "m_toIter") => `(tactic| repeat' ((fail_if_success (with_reducible show wpAny _ _ (pyIter _) _ _ _)); first | (k_unfold; (try dsimp only)) | walk1 | (dsimp only; walk1) | (leave1; walk_say "STEP leave1"; (try dsimp only)) | fail "no step"))
-- the same over clean stacks
local macro_rules | `(tactic| walk_at "m_enterC") => `(tactic| k_dflt (refine' codeC_def ?k1 ?k2 ?k3 ?k4 ?k5 ?kA ?kF ?kK ?k6 ?k7 ?k8 ?k9 ?kB ?_ ?c2 ?c3 ?c4 ?c5; (case kA => exact rfl); (case kF => exact rfl); (case kK => assumption); (case k1 => k_asm); (case k2 => k_asm); (case k3 => k_asm); (case k4 => k_asm); (case k5 => k_asm); (case k6 => k_is); (case k7 => k_is); (case k8 => ktr_room); (case k9 => (refine' kp_binds ?kx ?ke; (case kx => k_in); (case ke => exact fun _ => rfl))); (case c5 => decide); (case kB => exact locs rfl); (case c2 => exact rfl); (case c3 => exact rfl); (case c4 => exact rfl); k_whole; intro g' L' h' tk' FG' F' N' B' X' T'; (try dsimp only)))
-- the same for a def with cells
local macro_rules | `(tactic| walk_at "m_enterCells") => `(tactic| k_dflt (refine' code_defC ?k1 ?k2 ?k3 ?k4 ?k5 ?kA ?kF ?kK ?k6 ?k7 ?k8 ?k9 ?kB ?kD ?_ ?c2 ?c3 ?c4; (case kA => exact rfl); (case kF => exact rfl); (case kK => assumption); (case k1 => k_asm); (case k2 => k_asm); (case k3 => k_asm); (case k4 => k_asm); (case k5 => k_asm); (case k6 => k_is); (case k7 => k_is); (case k8 => ktr_room); (case k9 => (refine' kp_binds ?kx ?ke; (case kx => k_in); (case ke => exact fun _ => rfl))); (case kB => exact rfl); (case kD => decide +kernel); (case c2 => exact rfl); (case c3 => exact rfl); (case c4 => exact rfl); k_whole; intro g' L' h' tk' cells' FG' F' N' Y' B' X' T' l1; k_cells Y'; (try simp only [List.cons_append, List.nil_append] at N'); (try dsimp only); (try k_fold)))
-- an unwritten ledger tail lies off
local macro_rules | `(tactic| k_all) => `(tactic| first | assumption | exact lt_off (by assumption) | exact allLt_off (by assumption))
-- steps, up to a call of a def
local macro_rules | `(tactic| walk_at "m_toCall") => `(tactic| repeat' ((fail_if_success (with_reducible show wpAny _ _ (call (.ref _) _) _ _ _)); first | (k_unfold; (try dsimp only)) | walk1 | (dsimp only; walk1) | (leave1; walk_say "STEP leave1"; (try dsimp only)) | fail "no step"))
-- steps, up to an item's asking
local macro_rules | `(tactic| walk_at "m_toSub") => `(tactic| repeat' ((fail_if_success (with_reducible show wpAny _ _ (subscriptTail _ _ _ _) _ _ _)); first | (k_unfold; (try dsimp only)) | walk1 | (dsimp only; walk1) | (leave1; walk_say "STEP leave1"; (try dsimp only)) | fail "no step"))
/-- _law_residues' list after k turns -/
def resF (b : Array UInt8) (pr : Int) (wn : Nat) : Nat → List Int
  | 0 => []
  | k + 1 => putAt (resF b pr wn k) (bis (resF b pr wn k) ((vY b (k * wn) (wn - 1)).fmod pr)) ((vY b (k * wn) (wn - 1)).fmod pr)
theorem putAt_len (ns : List Int) (k : Nat) (x : Int) : (putAt ns k x).length = ns.length + 1 := by
  unfold putAt
  rw [List.length_append, List.length_cons, List.length_take, List.length_drop]; omega
theorem resF_len (b : Array UInt8) (pr : Int) (wn : Nat) : ∀ k, (resF b pr wn k).length = k
  | 0 => rfl
  | k + 1 => by rw [resF, putAt_len, resF_len b pr wn k]
/-- what is asked of the octets -/
def ChunksOk (b : Array UInt8) (wn n : Nat) : Prop := ∀ k, k < n → (∀ j, j < wn - 1 → Builtin.bitAnd (vX b (k * wn) j) 64 ≠ 0) ∧ Builtin.bitAnd (vX b (k * wn) (wn - 1)) 64 = 0 ∧ ∀ j, j ≤ wn - 1 → 0 ≤ vY b (k * wn) j ∧ vY b (k * wn) j ≤ 1000000000
theorem mem_swap {α : Type} (a b : α) (l : List α) : ∀ p ∈ a :: b :: l, p ∈ b :: a :: l := fun p hp => by
  rcases List.mem_cons.mp hp with rfl | hp
  · exact .tail _ (.head _)
  · rcases List.mem_cons.mp hp with rfl | hp
    · exact .head _
    · exact .tail _ (.tail _ hp)
set_option maxRecDepth 100000 in
set_option maxHeartbeats 8000000 in
theorem residues_does (w : World) (pr fa wd : Int) (tp tf tw : Tok) (rest : List (Addr × Obj)) (hp0 : 3 ≤ pr) (hp1 : pr ≤ 100) (hf0 : 1 ≤ fa) (hf1 : fa ≤ 100) (hw0 : 2 ≤ wd) (hw1 : wd ≤ 4)
    (hB : ChunksOk (outA (tapeB wd pr fa).toList wd (pr.fdiv 2).toNat) wd.toNat (pr.fdiv 2).toNat) :
    DoesC 6 w 58 rest [.int pr tp, .int fa tf, .int wd tw] fun r news' => ∃ D us, r = .ref D ∧ IntsAre us (resF (outA (tapeB wd pr fa).toList wd (pr.fdiv 2).toNat) pr wd.toNat (pr.fdiv 2).toNat ++ []) ∧ news' = (D, listOf us.toArray 0) :: rest ∧ ∀ p ∈ rest, p.1 < D := by
  unfold DoesC
  k_fill
  intro dp un gd cn cs a ccd cl outer A₀ base h₀ L m mg mb p loose mean s Q E B F X N T hk hdp hun hret
  have hb : 0 ≤ pr.fdiv 2 ∧ pr.fdiv 2 ≤ 50 := by
    rw [Int.fdiv_eq_ediv_of_nonneg _ (by decide)]; omega
  have hlen := tapeL_len wd pr fa hw0 (pr.fdiv 2 + 1 - 1).toNat
  have hlk : (pr.fdiv 2 + 1 - 1).toNat * wd.toNat ≤ 200 := Nat.le_trans (Nat.mul_le_mul (show (pr.fdiv 2 + 1 - 1).toNat ≤ 50 by omega) (show wd.toNat ≤ 4 by omega)) (by decide)
  have hlk2 : (pr.fdiv 2).toNat * wd.toNat ≤ 200 := Nat.le_trans (Nat.mul_le_mul (show (pr.fdiv 2).toNat ≤ 50 by omega) (show wd.toNat ≤ 4 by omega)) (by decide)
  have hsz : (tapeB wd pr fa).toList.length = (pr.fdiv 2).toNat * wd.toNat := by
    show ((tapeL wd pr fa (pr.fdiv 2 + 1 - 1).toNat).map fun n => n.toNat.toUInt8).length = _
    rw [List.length_map, hlen, show (pr.fdiv 2 + 1 - 1).toNat = (pr.fdiv 2).toNat by omega]
  refine wpC_call ?_
  walk_at "m_enterC"
  refine execsC_cons (assignC ?_)
  refine callEC ?_
  walk_at "m_steps"
  refine callWithC_builtin ?_
  refine argsC_cons ?_
  refine callEC ?_
  walk_at "m_steps"
  refine callWithC_K (by assumption) (by k_is) ?_
  k_with "call ref" => (refine' does_use (tape_does _ _ _ _ _ _ _ _ ?zza ?zzb ?zzc ?zzd ?zze ?zzf) ?k1 ?k2 ?k3 ?k4 ?k5 ?kK ?kd ?ku ?_; (case k4 => k_asm); (case zza => omega); (case zzb => omega); (case zzc => omega); (case zzd => omega); (case zze => omega); (case zzf => omega); walk_at "m_use"; intro r9 news9 h9 tk9 F9 N9 P9; obtain ⟨t9, e9, e8⟩ := P9; subst e9; subst e8; (try dsimp only))
  refine argsC_cons (wpC_of ?_)
  walk_at "m_steps"
  refine argsC_cons (wpC_of ?_)
  walk_at "m_steps"
  refine argsC_nil ⟨by k_in, ?_⟩
  refine doesC_use (swap_does _ (tapeB wd pr fa).toList wd _ _ _ (pr.fdiv 2).toNat (by omega) (by omega) ?_ (by omega)) (by k_asm) (by k_asm) (by assumption) (by k_asm) (by k_asm) rfl ?_ ?_ ?_
  · rw [hsz, Int.natCast_mul, Int.toNat_of_nonneg (show 0 ≤ wd by omega)]
  · simp only [Around.deeper, ktrTop] at *; omega
  · simp only [Around.deeper, ktrTop] at *; omega
  intro r8 news8 h8 tk8 F8 N8 P8
  obtain ⟨t8, e9, e8⟩ := P8
  subst e9
  subst e8
  refine argsC_nil ?_
  dsimp only
  refine wpC_of (it_make (by k_asm) (by k_asm) ?_)
  intro I h7 F7 N7 l7
  dsimp only
  walk_at "m_steps"
  refine wpC_of ?_
  walk_at "m_toIter"
  rename IsRange _ _ _ _ _ _ _ _ => hR
  rename News _ _ _ _ => hN
  rename Fr _ _ _ _ => hF
  rename _ < _ ∧ AllLt _ _ => hlt
  have hlt1 := hlt.1
  have hO := outA_size (tapeB wd pr fa).toList wd (pr.fdiv 2).toNat
  rw [hsz] at hO
  generalize outA (tapeB wd pr fa).toList wd (pr.fdiv 2).toNat = b at hB hN hO hret
  have hw : wd.toNat ≤ 4 ∧ 2 ≤ wd.toNat := by omega
  generalize wd.toNat = wn at hB hO hw hret hlk2
  have hpn : (pr.fdiv 2).toNat ≤ 50 := by omega
  generalize hpe : (pr.fdiv 2).toNat = n at hB hO hret hlk2 hpn
  refine many_for (n := n) (os₀ := [(_, listOf ([] : List Value).toArray 0), (I, itObj b _ 0)]) [_, I] (fun k os => ∃ vs e, os = [(_, listOf vs.toArray e), (I, itObj b _ (k * wn))] ∧ IntsAre vs (resF b pr wn k)) [Str.ofString "turn"] (by rfl) hR (small_range (by omega) (by omega) (by omega) (by omega) (by omega) (by omega)) ?_ hF hN ⟨[], 0, by rw [Nat.zero_mul], .nil⟩ rfl ?_ ?_ ?_
  · rw [range_size1 hb.1, hpe]
  · intro p hp b' hb'
    rcases List.mem_cons.mp hb' with rfl | hb'
    · exact allLt_off hlt.2 p hp
    · rw [List.mem_singleton.mp hb']; exact lt_off l7 p hp
  · rintro k t u hk tk own os hkn ⟨vs, e, rfl, hvs⟩ _ hoff Fk Nk
    obtain ⟨c1, c2, c3⟩ := hB k hkn
    have hlen2 := resF_len b pr wn k
    have hkw : (k + 1) * wn ≤ n * wn := Nat.mul_le_mul_right _ (by omega)
    have hkw2 : (k + 1) * wn = k * wn + (wn - 1) + 1 := by rw [Nat.add_mul]; omega
    dsimp only [resF]
    dsimp only at hoff
    have hoS := fun (p : Addr × Obj) (hp : p ∈ news8 ++ own) => hoff p hp _ (.head _)
    have hoI : ∀ p ∈ news8 ++ own, p.1 ≠ I := fun p hp => hoff p hp I (.tail _ (.head _))
    have hne := Nat.ne_of_gt hlt1
    k_with "call ref" => first
      | (refine' does_use (varint_does _ I b _ (k * wn) (wn - 1) ((_, listOf vs.toArray e) :: (news8 ++ own)) ?zza ?zzb c1 c2 c3) ?k1 ?k2 ?k3 ?k4 ?k5 ?kK ?kd ?ku ?_; (case k4 => exact News.perm (by k_asm) (mem_swap _ _ _)); (case zza => exact List.forall_mem_cons.mpr ⟨hne, hoI⟩); (case zzb => (rw [hO]; omega)); walk_at "m_use"; intro r9 news9 h9 tk9 F9 N9 P9; obtain ⟨t9, e9, e8⟩ := P9; subst e9; subst e8; (try dsimp only))
      | (refine' does_use (insort_does _ _ vs _ e _ _ ((I, itObj b _ (k * wn + (wn - 1) + 1)) :: (news8 ++ own)) hvs ?zza ?zzb) ?k1 ?k2 ?k3 ?k4 ?k5 ?kK ?kd ?ku ?_; (case k4 => exact News.perm (by k_asm) (mem_swap _ _ _)); (case zza => (rw [hlen2]; omega)); (case zzb => exact List.forall_mem_cons.mpr ⟨Ne.symm hne, hoS⟩); walk_at "m_use"; intro r9 news9 h9 tk9 F9 N9 P9; obtain ⟨vs9, e9, i9, e8⟩ := P9; subst e9; subst e8; (try dsimp only))
    walk_at "m_steps"
    rename News _ _ _ _ => N7
    rename Fr _ _ _ _ => F7
    rename IntsAre _ (putAt _ _ _) => hI7
    rw [← hkw2] at N7

    exact ⟨rfl, _, _, _, [(_, _), (I, _)], _, rfl, ⟨_, _, rfl, hI7⟩, rfl, F7, Same.put (by decide) (Same.mix (fun _ h => h) (Same.refl _ _)), N7,
      (fun p hp => by rcases List.mem_cons.mp hp with rfl | hp; (· exact .head _); (· rw [List.mem_singleton.mp hp]; exact .tail _ (.head _))),
      (fun p hp => .tail _ (.tail _ hp))⟩
  · rintro u hk tk os ⟨vs, e, rfl, hvs⟩ _ Fk Nk
    rw [← hO] at Nk
    k_with "call type:list" => (refine it_list (b := b) (by rfl) (by k_asm) (News.perm (by k_asm) (mem_swap _ _ _)) ?zza ?_; (case zza => exact List.forall_mem_cons.mpr ⟨Nat.ne_of_gt hlt1, lt_off l7⟩); intro D5 c5 h5 tk5 F5 N5 l5; (try dsimp only))
    k_with "binaryOp Add ref ref" => (k_dflt (refine' kmk_add_ints ?zzF ?zzN ?zza ?zzb ?zzi ?zzj ?_ ?zzz; (case zzF => k_asm); (case zzN => k_asm); (case zza => kmk_list); (case zzb => kmk_list); (case zzi => exact hvs); (case zzj => exact .nil); (case zzz => exact small_fits (by rw [resF_len]; simp only [List.length_nil]; omega))); intro D6 us6 h6 F6 N6 l6 hI6; (try dsimp only))
    walk_at "m_steps"
    k_with_none

    exact hret _ _ _ _ (by k_asm) (cb_drop (by assumption) (fun p hp => by rcases List.mem_cons.mp hp with rfl | hp; (· exact .head _); (· exact .tail _ (.tail _ (.tail _ hp))))) ⟨_, _, rfl, hI6, rfl, fun p hp => l6 p (.tail _ (.tail _ hp))⟩
end Mine
end

section
open PySem PySem.W PyProof.Rows PySem.Calls
namespace Mine
theorem fmod6 (x : Int) : 0 ≤ x.fmod (10 ^ Int.toNat 6) ∧ x.fmod (10 ^ Int.toNat 6) < 1000000 := by
  rw [show (10 : Int) ^ Int.toNat 6 = 1000000 from by decide, Int.fmod_eq_emod_of_nonneg _ (by decide)]
  omega
abbrev InM (x : Int) : Prop := 0 ≤ x ∧ x < 1000000
/-- the five numbers of the script -/
theorem cells_five (ns : List Int) : ∃ c0 c1 c2 c3 c4, List.map (fun k' => k'.fmod (10 ^ Int.toNat 6)) (List.take 5 ns) ++ List.drop (((List.map (fun k' => k'.fmod (10 ^ Int.toNat 6)) (List.take 5 ns)).length : Nat) : Int).toNat [1, 4, 2, 6, 0] = [c0, c1, c2, c3, c4] ∧ InM c0 ∧ InM c1 ∧ InM c2 ∧ InM c3 ∧ InM c4 := by
  match ns with
  | [] => exact ⟨1, 4, 2, 6, 0, rfl, by decide, by decide, by decide, by decide, by decide⟩
  | [a] => exact ⟨_, 4, 2, 6, 0, rfl, fmod6 a, by decide, by decide, by decide, by decide⟩
  | [a, b] => exact ⟨_, _, 2, 6, 0, rfl, fmod6 a, fmod6 b, by decide, by decide, by decide⟩
  | [a, b, c] => exact ⟨_, _, _, 6, 0, rfl, fmod6 a, fmod6 b, fmod6 c, by decide, by decide⟩
  | [a, b, c, d] => exact ⟨_, _, _, _, 0, rfl, fmod6 a, fmod6 b, fmod6 c, fmod6 d, by decide⟩
  | a :: b :: c :: d :: e :: _ => exact ⟨_, _, _, _, _, rfl, fmod6 a, fmod6 b, fmod6 c, fmod6 d, fmod6 e⟩
theorem menu_isP {k : Int} (h0 : 0 ≤ k) (h1 : k < 8) : IsP (List.getD [13, 17, 29, 37, 41, 53, 61, 5] k.toNat 0) := by
  have h : k = 0 ∨ k = 1 ∨ k = 2 ∨ k = 3 ∨ k = 4 ∨ k = 5 ∨ k = 6 ∨ k = 7 := by omega
  unfold IsP
  rcases h with rfl | rfl | rfl | rfl | rfl | rfl | rfl | rfl <;> decide
section
variable {prog : Program} {w : World} {A : Around} {E : Value → Shared → Prop} {s : Shared} {value slice : PySem.Expr} {l : Addr} {vs : List Value} {ns : List Int} {k x : Int} {u : Tok} {Q : Value → Shared → Prop}
/-- an item of a list of ints, named -/
theorem item_is (e : ns.getD k.toNat 0 = x) (hl : s.heap.IsList l vs.toArray) (hi : IntsAre vs ns) (h0 : 0 ≤ k) (h1 : k < ns.length) (hfit : k < 2 ^ 63) (h : ∀ t, Q (.int x t) s)
    (hs : subscripted slice false (.ref l) (.int k u) = operate [.ref l, .int k u] (getItem (.ref l) (.int k u))) :
    wpAny (model prog w) A (subscriptTail value slice (.ref l) (.int k u)) Q E s := by
  subst e
  exact item_anyK hl hi h0 h1 hfit h hs
/-- an item of the tuple of primes -/
theorem item_prime (ht : IsTup s.heap l vs.toArray) (hi : IntsAre vs [13, 17, 29, 37, 41, 53, 61, 5]) (h0 : 0 ≤ k) (h1 : k < 8) (h : ∀ pr t, IsP pr → Q (.int pr t) s)
    (hs : subscripted slice false (.ref l) (.int k u) = operate [.ref l, .int k u] (getItem (.ref l) (.int k u))) :
    wpAny (model prog w) A (subscriptTail value slice (.ref l) (.int k u)) Q E s :=
  item_anyT ht hi h0 h1 (by omega) (fun t => h _ t (menu_isP h0 h1)) hs
/-- a number of the range, to the half of the prime -/
theorem pow_num {pr n : Int} {t : Tok} (hp : pr ≤ 61) (hn0 : 0 ≤ n) (hn1 : n ≤ 30) (h0 : 1 ≤ k) (h1 : k < 1 + (((pr - 1).toNat : Nat) : Int)) (h : Q (.int (k ^ n.toNat) s.toks) { s with toks := s.toks + 1 }) :
    wpAny (model prog w) A (binaryOp .Pow (.int k t) (.int n u)) Q E s := pow_int_small hn0 (by omega) (by omega) h
end
end Mine
end

section
open PySem PySem.W PyProof.Rows
namespace Mine
/-- the squares left by p, in order -/
def qrs (p : Int) : List Int :=
  if p = 13 then [1, 3, 4, 9, 10, 12]
  else if p = 17 then [1, 2, 4, 8, 9, 13, 15, 16]
  else if p = 29 then [1, 4, 5, 6, 7, 9, 13, 16, 20, 22, 23, 24, 25, 28]
  else if p = 37 then [1, 3, 4, 7, 9, 10, 11, 12, 16, 21, 25, 26, 27, 28, 30, 33, 34, 36]
  else if p = 41 then [1, 2, 4, 5, 8, 9, 10, 16, 18, 20, 21, 23, 25, 31, 32, 33, 36, 37, 39, 40]
  else if p = 53 then [1, 4, 6, 7, 9, 10, 11, 13, 15, 16, 17, 24, 25, 28, 29, 36, 37, 38, 40, 42, 43, 44, 46, 47, 49, 52]
  else if p = 61 then [1, 3, 4, 5, 9, 12, 13, 14, 15, 16, 19, 20, 22, 25, 27, 34, 36, 39, 41, 42, 45, 46, 47, 48, 49, 52, 56, 57, 58, 60]
  else [1, 4]
def hT13 : List Int := [0, 3, -2, 3, -3, -2, -2, 2, 2, 3, -3, 2, -3]
def sT13 : List Int := [0, 1, -1, 1, 1, -1, -1, -1, -1, 1, 1, -1, 1]
def hT17 : List Int := [0, -1, 1, 4, -1, 4, -4, -4, 1, 1, -4, -4, 4, -1, 4, 1, -1]
def sT17 : List Int := [0, 1, 1, -1, 1, -1, -1, -1, 1, 1, -1, -1, -1, 1, -1, 1, 1]
def hT29 : List Int := [0, -5, -2, -2, 5, 5, 5, -5, 2, 5, 2, -2, 2, 5, -2, 2, -5, -2, 2, -2, -5, -2, 5, -5, -5, -5, 2, 2, 5]
def sT29 : List Int := [0, 1, -1, -1, 1, 1, 1, 1, -1, 1, -1, -1, -1, 1, -1, -1, 1, -1, -1, -1, 1, -1, 1, 1, 1, 1, -1, -1, 1]
def hT37 : List Int := [0, -1, 6, 1, 1, -6, -6, -1, -6, -1, -1, 1, -1, -6, 6, 6, -1, -6, 6, -6, 6, 1, -6, -6, 6, 1, -1, 1, 1, 6, 1, 6, 6, -1, -1, -6, 1]
def sT37 : List Int := [0, 1, -1, 1, 1, -1, -1, 1, -1, 1, 1, 1, 1, -1, -1, -1, 1, -1, -1, -1, -1, 1, -1, -1, -1, 1, 1, 1, 1, -1, 1, -1, -1, 1, 1, -1, 1]
def hT41 : List Int := [0, -5, 5, -4, -5, 5, 4, -4, 5, 5, -5, -4, -4, -4, 4, 4, -5, 4, -5, 4, 5, 5, 4, -5, 4, -5, 4, 4, -4, -4, -4, -5, 5, 5, -4, 4, 5, -5, -4, 5, -5]
def sT41 : List Int := [0, 1, 1, -1, 1, 1, -1, -1, 1, 1, 1, -1, -1, -1, -1, -1, 1, -1, 1, -1, 1, 1, -1, 1, -1, 1, -1, -1, -1, -1, -1, 1, 1, 1, -1, -1, 1, 1, -1, 1, 1]
def hT53 : List Int := [0, 7, -2, -2, -7, 2, -7, -7, 2, -7, 7, -7, 2, 7, 2, 7, 7, -7, 2, -2, -2, 2, 2, 2, 7, -7, -2, 2, 7, -7, -2, -2, -2, 2, 2, -2, 7, -7, -7, -2, -7, -2, 7, -7, 7, -2, 7, 7, -2, 7, 2, 2, -7]
def sT53 : List Int := [0, 1, -1, -1, 1, -1, 1, 1, -1, 1, 1, 1, -1, 1, -1, 1, 1, 1, -1, -1, -1, -1, -1, -1, 1, 1, -1, -1, 1, 1, -1, -1, -1, -1, -1, -1, 1, 1, 1, -1, 1, -1, 1, 1, 1, -1, 1, 1, -1, 1, -1, -1, 1]
def hT61 : List Int := [0, -5, 6, 5, 5, 5, -6, 6, -6, -5, -6, -6, -5, -5, 5, -5, -5, -6, 6, 5, -5, -6, -5, 6, 6, -5, 6, 5, -6, -6, 6, -6, 6, 6, -5, -6, 5, -6, -6, 5, 6, 5, -5, -6, 6, 5, 5, -5, 5, 5, 6, 6, 5, 6, -6, 6, -5, -5, -5, -6, 5]
def sT61 : List Int := [0, 1, -1, 1, 1, 1, -1, -1, -1, 1, -1, -1, 1, 1, 1, 1, 1, -1, -1, 1, 1, -1, 1, -1, -1, 1, -1, 1, -1, -1, -1, -1, -1, -1, 1, -1, 1, -1, -1, 1, -1, 1, 1, -1, -1, 1, 1, 1, 1, 1, -1, -1, 1, -1, -1, -1, 1, 1, 1, -1, 1]
def hT5 : List Int := [0, -1, -2, 2, 1]
def sT5 : List Int := [0, 1, -1, -1, 1]
theorem hT13_is : ((List.range 13).all fun i => halfL (qrs 13) 13 ((i : Nat) : Int) == hT13.getD i 0) = true := by decide +kernel
theorem sT13_is : ((List.range 13).all fun i => sgnL (qrs 13) ((i : Nat) : Int) == sT13.getD i 0) = true := by decide +kernel
theorem aT13_is : ((List.range 13).all fun i => (if hT13.getD i 0 < 0 then - hT13.getD i 0 else hT13.getD i 0) == (if ((qrs 13).any fun x => x == ((i : Nat) : Int)) = true then (sqT 13).1 else (sqT 13).2) || i == 0) = true := by decide +kernel
theorem mT13_is : ((List.range 13).all fun i => (List.range 13).all fun j => hT13.getD (i * j * j % 13) 0 == sT13.getD j 0 * hT13.getD i 0 || i == 0 || j == 0) = true := by decide +kernel
theorem hT17_is : ((List.range 17).all fun i => halfL (qrs 17) 17 ((i : Nat) : Int) == hT17.getD i 0) = true := by decide +kernel
theorem sT17_is : ((List.range 17).all fun i => sgnL (qrs 17) ((i : Nat) : Int) == sT17.getD i 0) = true := by decide +kernel
theorem aT17_is : ((List.range 17).all fun i => (if hT17.getD i 0 < 0 then - hT17.getD i 0 else hT17.getD i 0) == (if ((qrs 17).any fun x => x == ((i : Nat) : Int)) = true then (sqT 17).1 else (sqT 17).2) || i == 0) = true := by decide +kernel
theorem mT17_is : ((List.range 17).all fun i => (List.range 17).all fun j => hT17.getD (i * j * j % 17) 0 == sT17.getD j 0 * hT17.getD i 0 || i == 0 || j == 0) = true := by decide +kernel
theorem hT29_is : ((List.range 29).all fun i => halfL (qrs 29) 29 ((i : Nat) : Int) == hT29.getD i 0) = true := by decide +kernel
theorem sT29_is : ((List.range 29).all fun i => sgnL (qrs 29) ((i : Nat) : Int) == sT29.getD i 0) = true := by decide +kernel
theorem aT29_is : ((List.range 29).all fun i => (if hT29.getD i 0 < 0 then - hT29.getD i 0 else hT29.getD i 0) == (if ((qrs 29).any fun x => x == ((i : Nat) : Int)) = true then (sqT 29).1 else (sqT 29).2) || i == 0) = true := by decide +kernel
theorem mT29_is : ((List.range 29).all fun i => (List.range 29).all fun j => hT29.getD (i * j * j % 29) 0 == sT29.getD j 0 * hT29.getD i 0 || i == 0 || j == 0) = true := by decide +kernel
theorem hT37_is : ((List.range 37).all fun i => halfL (qrs 37) 37 ((i : Nat) : Int) == hT37.getD i 0) = true := by decide +kernel
theorem sT37_is : ((List.range 37).all fun i => sgnL (qrs 37) ((i : Nat) : Int) == sT37.getD i 0) = true := by decide +kernel
theorem aT37_is : ((List.range 37).all fun i => (if hT37.getD i 0 < 0 then - hT37.getD i 0 else hT37.getD i 0) == (if ((qrs 37).any fun x => x == ((i : Nat) : Int)) = true then (sqT 37).1 else (sqT 37).2) || i == 0) = true := by decide +kernel
theorem mT37_is : ((List.range 37).all fun i => (List.range 37).all fun j => hT37.getD (i * j * j % 37) 0 == sT37.getD j 0 * hT37.getD i 0 || i == 0 || j == 0) = true := by decide +kernel
theorem hT41_is : ((List.range 41).all fun i => halfL (qrs 41) 41 ((i : Nat) : Int) == hT41.getD i 0) = true := by decide +kernel
theorem sT41_is : ((List.range 41).all fun i => sgnL (qrs 41) ((i : Nat) : Int) == sT41.getD i 0) = true := by decide +kernel
theorem aT41_is : ((List.range 41).all fun i => (if hT41.getD i 0 < 0 then - hT41.getD i 0 else hT41.getD i 0) == (if ((qrs 41).any fun x => x == ((i : Nat) : Int)) = true then (sqT 41).1 else (sqT 41).2) || i == 0) = true := by decide +kernel
theorem mT41_is : ((List.range 41).all fun i => (List.range 41).all fun j => hT41.getD (i * j * j % 41) 0 == sT41.getD j 0 * hT41.getD i 0 || i == 0 || j == 0) = true := by decide +kernel
theorem hT53_is : ((List.range 53).all fun i => halfL (qrs 53) 53 ((i : Nat) : Int) == hT53.getD i 0) = true := by decide +kernel
theorem sT53_is : ((List.range 53).all fun i => sgnL (qrs 53) ((i : Nat) : Int) == sT53.getD i 0) = true := by decide +kernel
theorem aT53_is : ((List.range 53).all fun i => (if hT53.getD i 0 < 0 then - hT53.getD i 0 else hT53.getD i 0) == (if ((qrs 53).any fun x => x == ((i : Nat) : Int)) = true then (sqT 53).1 else (sqT 53).2) || i == 0) = true := by decide +kernel
theorem mT53_is : ((List.range 53).all fun i => (List.range 53).all fun j => hT53.getD (i * j * j % 53) 0 == sT53.getD j 0 * hT53.getD i 0 || i == 0 || j == 0) = true := by decide +kernel
theorem hT61_is : ((List.range 61).all fun i => halfL (qrs 61) 61 ((i : Nat) : Int) == hT61.getD i 0) = true := by decide +kernel
theorem sT61_is : ((List.range 61).all fun i => sgnL (qrs 61) ((i : Nat) : Int) == sT61.getD i 0) = true := by decide +kernel
theorem aT61_is : ((List.range 61).all fun i => (if hT61.getD i 0 < 0 then - hT61.getD i 0 else hT61.getD i 0) == (if ((qrs 61).any fun x => x == ((i : Nat) : Int)) = true then (sqT 61).1 else (sqT 61).2) || i == 0) = true := by decide +kernel
theorem mT61_is : ((List.range 61).all fun i => (List.range 61).all fun j => hT61.getD (i * j * j % 61) 0 == sT61.getD j 0 * hT61.getD i 0 || i == 0 || j == 0) = true := by decide +kernel
theorem hT5_is : ((List.range 5).all fun i => halfL (qrs 5) 5 ((i : Nat) : Int) == hT5.getD i 0) = true := by decide +kernel
theorem sT5_is : ((List.range 5).all fun i => sgnL (qrs 5) ((i : Nat) : Int) == sT5.getD i 0) = true := by decide +kernel
theorem aT5_is : ((List.range 5).all fun i => (if hT5.getD i 0 < 0 then - hT5.getD i 0 else hT5.getD i 0) == (if ((qrs 5).any fun x => x == ((i : Nat) : Int)) = true then (sqT 5).1 else (sqT 5).2) || i == 0) = true := by decide +kernel
theorem mT5_is : ((List.range 5).all fun i => (List.range 5).all fun j => hT5.getD (i * j * j % 5) 0 == sT5.getD j 0 * hT5.getD i 0 || i == 0 || j == 0) = true := by decide +kernel
theorem jac_sq_of {p : Nat} {P : Int} {qs hT sT : List Int} (e : P = (p : Int)) (h1 : ((List.range p).all fun i => halfL qs P ((i : Nat) : Int) == hT.getD i 0) = true) (h2 : ((List.range p).all fun i => sgnL qs ((i : Nat) : Int) == sT.getD i 0) = true)
    (h3 : ((List.range p).all fun i => (List.range p).all fun j => hT.getD (i * j * j % p) 0 == sT.getD j 0 * hT.getD i 0 || i == 0 || j == 0) = true) {c s : Int} (hc0 : 1 ≤ c) (hc1 : c < P) (hs0 : 1 ≤ s) (hs1 : s < P) :
    halfL qs P ((c * s * s).fmod P) = sgnL qs s * halfL qs P c := by
  obtain ⟨i, rfl⟩ := Int.eq_ofNat_of_zero_le (show 0 ≤ c by omega)
  obtain ⟨j, rfl⟩ := Int.eq_ofNat_of_zero_le (show 0 ≤ s by omega)
  have hi : i < p := by omega
  have hj : j < p := by omega
  have hk : i * j * j % p < p := Nat.mod_lt _ (by omega)
  have g1 := List.all_eq_true.mp h1
  have g2 := List.all_eq_true.mp h2
  have g3 := List.all_eq_true.mp (List.all_eq_true.mp h3 i (List.mem_range.mpr hi)) j (List.mem_range.mpr hj)
  have a1 := beq_iff_eq.mp (g1 _ (List.mem_range.mpr hk))
  have a2 := beq_iff_eq.mp (g1 _ (List.mem_range.mpr hi))
  have a3 := beq_iff_eq.mp (g2 _ (List.mem_range.mpr hj))
  have ef : (((i : Int) * (j : Int) * (j : Int)).fmod P) = ((i * j * j % p : Nat) : Int) := by
    rw [e, Int.fmod_eq_emod_of_nonneg _ (by omega)]
    norm_cast
  rw [ef, a1, a2, a3]
  simp only [Bool.or_eq_true, beq_iff_eq] at g3
  rcases g3 with (g3 | g3) | g3
  · exact g3
  · omega
  · omega
theorem jac_abs_of {p : Nat} {P a b : Int} {qs hT : List Int} (e : P = (p : Int)) (h1 : ((List.range p).all fun i => halfL qs P ((i : Nat) : Int) == hT.getD i 0) = true)
    (h2 : ((List.range p).all fun i => (if hT.getD i 0 < 0 then - hT.getD i 0 else hT.getD i 0) == (if (qs.any fun x => x == ((i : Nat) : Int)) = true then a else b) || i == 0) = true) {c : Int} (hc0 : 1 ≤ c) (hc1 : c < P) :
    (if halfL qs P c < 0 then - halfL qs P c else halfL qs P c) = (if (qs.any fun x => x == c) = true then a else b) := by
  obtain ⟨i, rfl⟩ := Int.eq_ofNat_of_zero_le (show 0 ≤ c by omega)
  have hi : i < p := by omega
  have a1 := beq_iff_eq.mp (List.all_eq_true.mp h1 _ (List.mem_range.mpr hi))
  have a2 := List.all_eq_true.mp h2 _ (List.mem_range.mpr hi)
  simp only [Bool.or_eq_true, beq_iff_eq] at a2
  rw [a1]
  rcases a2 with a2 | a2
  · exact a2
  · omega
/-- Jacobsthal's sum at c times a square -/
theorem jac_sq {pr c s : Int} (hP : IsP pr) (hc0 : 1 ≤ c) (hc1 : c < pr) (hs0 : 1 ≤ s) (hs1 : s < pr) : halfL (qrs pr) pr ((c * s * s).fmod pr) = sgnL (qrs pr) s * halfL (qrs pr) pr c := by
  rcases hP with rfl | rfl | rfl | rfl | rfl | rfl | rfl | rfl
  · exact jac_sq_of (p := 13) rfl hT13_is sT13_is mT13_is hc0 hc1 hs0 hs1
  · exact jac_sq_of (p := 17) rfl hT17_is sT17_is mT17_is hc0 hc1 hs0 hs1
  · exact jac_sq_of (p := 29) rfl hT29_is sT29_is mT29_is hc0 hc1 hs0 hs1
  · exact jac_sq_of (p := 37) rfl hT37_is sT37_is mT37_is hc0 hc1 hs0 hs1
  · exact jac_sq_of (p := 41) rfl hT41_is sT41_is mT41_is hc0 hc1 hs0 hs1
  · exact jac_sq_of (p := 53) rfl hT53_is sT53_is mT53_is hc0 hc1 hs0 hs1
  · exact jac_sq_of (p := 61) rfl hT61_is sT61_is mT61_is hc0 hc1 hs0 hs1
  · exact jac_sq_of (p := 5) rfl hT5_is sT5_is mT5_is hc0 hc1 hs0 hs1
/-- Jacobsthal's sum, but for its sign -/
theorem jac_abs {pr c od ev : Int} (hP : IsP pr) (hc0 : 1 ≤ c) (hc1 : c < pr) (hsq : sqT pr = (od, ev)) : (if halfL (qrs pr) pr c < 0 then - halfL (qrs pr) pr c else halfL (qrs pr) pr c) = (if ((qrs pr).any fun x => x == c) = true then od else ev) := by
  obtain ⟨rfl, rfl⟩ : (sqT pr).1 = od ∧ (sqT pr).2 = ev := ⟨congrArg Prod.fst hsq, congrArg Prod.snd hsq⟩
  rcases hP with rfl | rfl | rfl | rfl | rfl | rfl | rfl | rfl
  · exact jac_abs_of (p := 13) rfl hT13_is aT13_is hc0 hc1
  · exact jac_abs_of (p := 17) rfl hT17_is aT17_is hc0 hc1
  · exact jac_abs_of (p := 29) rfl hT29_is aT29_is hc0 hc1
  · exact jac_abs_of (p := 37) rfl hT37_is aT37_is hc0 hc1
  · exact jac_abs_of (p := 41) rfl hT41_is aT41_is hc0 hc1
  · exact jac_abs_of (p := 53) rfl hT53_is aT53_is hc0 hc1
  · exact jac_abs_of (p := 61) rfl hT61_is aT61_is hc0 hc1
  · exact jac_abs_of (p := 5) rfl hT5_is aT5_is hc0 hc1
end Mine
end

section
open PySem PySem.W PyProof.Rows
namespace Mine
theorem qrs_filter {pr : Int} (hP : IsP pr) : qrs pr = List.foldl (fun l' k' => if (k' ^ (pr.fdiv 2).toNat).fmod pr = 1 then l' ++ [k'] else l') [] (rangeKs 1 (pr - 1).toNat) := by
  rcases hP with rfl | rfl | rfl | rfl | rfl | rfl | rfl | rfl <;> decide +kernel
theorem qrs_len {pr : Int} (hP : IsP pr) : (qrs pr).length ≤ 30 := by
  rcases hP with rfl | rfl | rfl | rfl | rfl | rfl | rfl | rfl <;> decide
/-- the least number that is no square left by p -/
def strg (p : Int) : Int := if p = 13 then 2 else if p = 17 then 3 else if p = 29 then 2 else if p = 37 then 2 else if p = 41 then 3 else if p = 53 then 2 else if p = 61 then 2 else 2
abbrev lackL (pr : Int) : List Int := List.foldl (fun l' k' => if ((qrs pr).any fun x => x == k') = true then l' else if ((qrs pr).any fun x => x == k') = false then l' ++ [k'] else l') [] (rangeKs 1 (pr - 1).toNat)
theorem lack_strg {pr : Int} (hP : IsP pr) : (lackL pr).getD (0 : Int).toNat 0 = strg pr := by
  rcases hP with rfl | rfl | rfl | rfl | rfl | rfl | rfl | rfl <;> decide +kernel
theorem lack_len {pr : Int} (hP : IsP pr) : (0 : Int) < (lackL pr).length := by
  rcases hP with rfl | rfl | rfl | rfl | rfl | rfl | rfl | rfl <;> decide +kernel
theorem strg_in {pr : Int} (hP : IsP pr) : 2 ≤ strg pr ∧ strg pr ≤ 3 := by
  rcases hP with rfl | rfl | rfl | rfl | rfl | rfl | rfl | rfl <;> decide
theorem jac_bnd {pr c : Int} (hP : IsP pr) (hc0 : 1 ≤ c) (hc1 : c < pr) : -7 ≤ halfL (qrs pr) pr c ∧ halfL (qrs pr) pr c ≤ 7 := by
  have h : ∀ od ev, sqT pr = (od, ev) → 0 ≤ od ∧ od ≤ 7 ∧ 0 ≤ ev ∧ ev ≤ 7 := by
    rcases hP with rfl | rfl | rfl | rfl | rfl | rfl | rfl | rfl <;> (intro od ev e; have e1 := congrArg Prod.fst e; have e2 := congrArg Prod.snd e; subst e1; subst e2; decide)
  have e := jac_abs hP hc0 hc1 (od := (sqT pr).1) (ev := (sqT pr).2) rfl
  have h := h (sqT pr).1 (sqT pr).2 rfl
  split at e <;> split at e <;> omega
theorem abs_t {H od ev : Int} {b : Bool} (hA : (if H < 0 then - H else H) = (if b = true then od else ev)) (a : b = true) (n : (if H < 0 then - H else H) ≠ od) : False := n (hA.trans (if_pos a))
theorem abs_f {H od ev : Int} {b : Bool} (hA : (if H < 0 then - H else H) = (if b = true then od else ev)) (a : b = false) (n : (if H < 0 then - H else H) ≠ ev) : False := n (hA.trans (if_neg (by rw [a]; exact Bool.false_ne_true)))
theorem strg_at {pr c : Int} (hP : IsP pr) (hc0 : 1 ≤ c) (hc1 : c < pr) : 1 ≤ (c * strg pr).fmod pr ∧ (c * strg pr).fmod pr < pr := by
  rcases hP with rfl | rfl | rfl | rfl | rfl | rfl | rfl | rfl
  · rw [show strg 13 = 2 from rfl, Int.fmod_eq_emod_of_nonneg _ (by decide)]; omega
  · rw [show strg 17 = 3 from rfl, Int.fmod_eq_emod_of_nonneg _ (by decide)]; omega
  · rw [show strg 29 = 2 from rfl, Int.fmod_eq_emod_of_nonneg _ (by decide)]; omega
  · rw [show strg 37 = 2 from rfl, Int.fmod_eq_emod_of_nonneg _ (by decide)]; omega
  · rw [show strg 41 = 3 from rfl, Int.fmod_eq_emod_of_nonneg _ (by decide)]; omega
  · rw [show strg 53 = 2 from rfl, Int.fmod_eq_emod_of_nonneg _ (by decide)]; omega
  · rw [show strg 61 = 2 from rfl, Int.fmod_eq_emod_of_nonneg _ (by decide)]; omega
  · rw [show strg 5 = 2 from rfl, Int.fmod_eq_emod_of_nonneg _ (by decide)]; omega
theorem sgn_in (ns : List Int) (x : Int) : -1 ≤ sgnL ns x ∧ sgnL ns x ≤ 1 := by
  unfold sgnL
  split
  · exact ⟨by decide, by decide⟩
  · split <;> exact ⟨by decide, by decide⟩
end Mine
end

section
open PySem PySem.W PyProof.Rows
namespace Mine
/-- where _byteswap's inner loop puts things -/
theorem inA_get (d : List UInt8) (i0 wn : Nat) (acc : Array UInt8) (hs : i0 + wn ≤ acc.size) : ∀ j, j ≤ wn → ∀ t, (inA d wn i0 acc j).getD t 0 = if i0 + wn - j ≤ t ∧ t < i0 + wn then d.getD (i0 + (i0 + wn - 1 - t)) 0 else acc.getD t 0
  | 0, _, t => by rw [inA, if_neg (by omega)]
  | j + 1, hj, t => by
    rw [inA, show ((i0 : Int) + (wn : Int) - 1 - (0 + (j : Nat) * 1)).toNat = i0 + wn - 1 - j by omega, show ((i0 : Int) + (0 + (j : Nat) * 1)).toNat = i0 + j by omega]
    have ih := inA_get d i0 wn acc hs j (by omega) t
    have hz := inA_size d wn i0 acc j
    rw [Array.getD_eq_getD_getElem?] at ih ⊢
    rw [Array.getElem?_setIfInBounds]
    by_cases h : i0 + wn - 1 - j = t
    · rw [if_pos h, if_pos (by omega), if_pos (by omega), show i0 + (i0 + wn - 1 - t) = i0 + j by omega]; rfl
    · rw [if_neg h, ih]
      by_cases g : i0 + wn - j ≤ t ∧ t < i0 + wn
      · rw [if_pos g, if_pos (by omega)]
      · rw [if_neg g, if_neg (by omega)]
/-- _byteswap turns each word about -/
theorem outA_get (d : List UInt8) (wn : Nat) : ∀ k, k * wn ≤ d.length → ∀ i r, i < k → r < wn → (outA d wn k).getD (i * wn + r) 0 = d.getD (i * wn + (wn - 1 - r)) 0
  | 0, _, i, r, h, _ => absurd h (Nat.not_lt_zero _)
  | k + 1, hk, i, r, hi, hr => by
    rw [Nat.add_mul] at hk
    have hz := outA_size d wn k
    rw [outA, show (0 : Int) + (k : Nat) * (wn : Int) = ((k * wn : Nat) : Int) by rw [Int.natCast_mul]; omega, show (wn : Int).toNat = wn from rfl, inA_get d (k * wn) wn _ (by omega) wn (Nat.le_refl _)]
    by_cases h : i = k
    · subst h
      rw [if_pos (by omega), show i * wn + (i * wn + wn - 1 - (i * wn + r)) = i * wn + (wn - 1 - r) by omega]
    · have : (i + 1) * wn ≤ k * wn := Nat.mul_le_mul_right _ (by omega)
      rw [Nat.add_mul] at this
      rw [if_neg (by omega)]
      exact outA_get d wn k (by omega) i r (by omega) hr
/-- what one turn adds to the tape -/
def turnL (wd pr fa : Int) (i : Nat) : List Int :=
  [(digL wd (sqOf pr fa (1 + (i : Nat) * 1))).getD (0 : Int).toNat 0 + (1 + (i : Nat) * 1 : Int).fmod 2 * 128] ++
    (List.map (fun d => d + 64) (((digL wd (sqOf pr fa (1 + (i : Nat) * 1))).drop (1 : Int).toNat).take ((digL wd (sqOf pr fa (1 + (i : Nat) * 1))).length - (- (-1 : Int)).toNat - (1 : Int).toNat)) ++
      [(digL wd (sqOf pr fa (1 + (i : Nat) * 1))).getD ((digL wd (sqOf pr fa (1 + (i : Nat) * 1))).length - 1) 0 + 192])
theorem tapeL_turn (wd pr fa : Int) (i : Nat) : tapeL wd pr fa (i + 1) = tapeL wd pr fa i ++ turnL wd pr fa i := by
  rw [tapeL, turnL, List.append_assoc]
theorem turnL_len (wd pr fa : Int) (h : 2 ≤ wd) (i : Nat) : (turnL wd pr fa i).length = wd.toNat := by
  have h1 := tapeL_len wd pr fa h (i + 1)
  have h2 := tapeL_len wd pr fa h i
  rw [tapeL_turn, List.length_append, h2, Nat.add_mul] at h1
  omega
theorem tapeL_get (wd pr fa : Int) (h : 2 ≤ wd) : ∀ m i j, i < m → j < wd.toNat → (tapeL wd pr fa m).getD (i * wd.toNat + j) 0 = (turnL wd pr fa i).getD j 0
  | 0, i, j, hi, _ => absurd hi (Nat.not_lt_zero _)
  | m + 1, i, j, hi, hj => by
    have h2 := tapeL_len wd pr fa h m
    rw [tapeL_turn, List.getD_eq_getElem?_getD, List.getD_eq_getElem?_getD]
    by_cases e : i = m
    · subst e
      rw [List.getElem?_append_right (by omega), h2, Nat.add_sub_cancel_left]
    · have : (i + 1) * wd.toNat ≤ m * wd.toNat := Nat.mul_le_mul_right _ (by omega)
      rw [Nat.add_mul] at this
      rw [List.getElem?_append_left (by omega), ← List.getD_eq_getElem?_getD, ← List.getD_eq_getElem?_getD]
      exact tapeL_get wd pr fa h m i j (by omega) hj
theorem turnL_in (wd pr fa : Int) (i : Nat) : ∀ n ∈ turnL wd pr fa i, 0 ≤ n ∧ n < 256 := fun n hn =>
  tapeL_in wd pr fa (i + 1) n (by rw [tapeL_turn]; exact List.mem_append.mpr (.inr hn))
theorem u8_num {n : Int} (h0 : 0 ≤ n) (h1 : n < 256) : ((n.toNat.toUInt8.toNat : Nat) : Int) = n := by
  have e : n.toNat.toUInt8.toNat = n.toNat % 256 := by simp
  rw [e]; omega
/-- an octet of a word that was turned about -/
theorem vX_is {wd pr fa : Int} (h2 : 2 ≤ wd) (n : Nat) (hn : (pr.fdiv 2 + 1 - 1).toNat = n) {i k : Nat} (hi : i < n) (hk : k < wd.toNat) :
    vX (outA (tapeB wd pr fa).toList wd n) (i * wd.toNat) k = (turnL wd pr fa i).getD (wd.toNat - 1 - k) 0 := by
  have hl := tapeL_len wd pr fa h2 n
  have ht := turnL_len wd pr fa h2 i
  have e1 : (tapeB wd pr fa).toList = (tapeL wd pr fa n).map fun x => x.toNat.toUInt8 := by unfold tapeB; rw [hn]
  have ew : outA (tapeB wd pr fa).toList wd n = outA ((tapeL wd pr fa n).map fun x => x.toNat.toUInt8) (wd.toNat : Int) n := by rw [e1, Int.toNat_of_nonneg (by omega)]
  unfold vX
  rw [ew, outA_get _ wd.toNat n (by rw [List.length_map, hl]; exact Nat.le_refl _) i k hi hk]
  have hg := tapeL_get wd pr fa h2 n i (wd.toNat - 1 - k) hi (by omega)
  have hlt : i * wd.toNat + (wd.toNat - 1 - k) < (tapeL wd pr fa n).length := by
    have : (i + 1) * wd.toNat ≤ n * wd.toNat := Nat.mul_le_mul_right _ (by omega)
    rw [Nat.add_mul] at this
    omega
  rw [← hg, List.getD_eq_getElem?_getD, List.getD_eq_getElem?_getD, List.getElem?_map, List.getElem?_eq_getElem hlt]
  have hb := tapeL_in wd pr fa n _ (List.getElem_mem hlt)
  exact u8_num hb.1 hb.2
end Mine
end

section
open PySem PySem.W PyProof.Rows
namespace Mine
theorem nat_and_hi : ∀ n : Nat, n < 64 → Builtin.bitAnd ((n : Int) + 192) 63 = n ∧ Builtin.bitAnd ((n : Int) + 192) 64 = 64 := by decide +kernel
theorem nat_and_mid : ∀ n : Nat, n < 64 → Builtin.bitAnd ((n : Int) + 64) 63 = n ∧ Builtin.bitAnd ((n : Int) + 64) 64 = 64 := by decide +kernel
theorem nat_and_lo : ∀ n : Nat, n < 64 → (Builtin.bitAnd ((n : Int) + 0 * 128) 63 = n ∧ Builtin.bitAnd ((n : Int) + 0 * 128) 64 = 0) ∧ Builtin.bitAnd ((n : Int) + 1 * 128) 63 = n ∧ Builtin.bitAnd ((n : Int) + 1 * 128) 64 = 0 := by decide +kernel
theorem and_hi {x : Int} (h0 : 0 ≤ x) (h1 : x < 64) : Builtin.bitAnd (x + 192) 63 = x ∧ Builtin.bitAnd (x + 192) 64 ≠ 0 := by
  obtain ⟨n, rfl⟩ := Int.eq_ofNat_of_zero_le h0
  have := nat_and_hi n (by omega)
  exact ⟨this.1, by rw [this.2]; decide⟩
theorem and_mid {x : Int} (h0 : 0 ≤ x) (h1 : x < 64) : Builtin.bitAnd (x + 64) 63 = x ∧ Builtin.bitAnd (x + 64) 64 ≠ 0 := by
  obtain ⟨n, rfl⟩ := Int.eq_ofNat_of_zero_le h0
  have := nat_and_mid n (by omega)
  exact ⟨this.1, by rw [this.2]; decide⟩
theorem and_lo {x e : Int} (h0 : 0 ≤ x) (h1 : x < 64) (he : 0 ≤ e ∧ e < 2) : Builtin.bitAnd (x + e * 128) 63 = x ∧ Builtin.bitAnd (x + e * 128) 64 = 0 := by
  obtain ⟨n, rfl⟩ := Int.eq_ofNat_of_zero_le h0
  have := nat_and_lo n (by omega)
  rcases (show e = 0 ∨ e = 1 by omega) with rfl | rfl
  · exact this.1
  · exact this.2
theorem and_apart (a x : Nat) (h : x < 64) : (a * 64) &&& x = 0 := by
  have e : x = x &&& 63 := by
    have := Nat.and_two_pow_sub_one_eq_mod x 6
    rw [show (63 : Nat) = 2 ^ 6 - 1 by decide, this]; omega
  rw [e, Nat.and_comm x 63, ← Nat.and_assoc]
  have : (a * 64) &&& 63 = 0 := by
    rw [show (63 : Nat) = 2 ^ 6 - 1 by decide, Nat.and_two_pow_sub_one_eq_mod]; omega
  rw [this, Nat.zero_and]
theorem or_add {v x : Int} (hv : 0 ≤ v) (h0 : 0 ≤ x) (h1 : x < 64) : Builtin.bitOr (v * 2 ^ (6 : Int).toNat) x = v * 64 + x := by
  rw [show (2 : Int) ^ (6 : Int).toNat = 64 by decide, bitOr_and]
  obtain ⟨n, rfl⟩ := Int.eq_ofNat_of_zero_le hv
  obtain ⟨m, rfl⟩ := Int.eq_ofNat_of_zero_le h0
  have e : Builtin.bitAnd ((n : Int) * 64) (m : Int) = 0 := by
    unfold Builtin.bitAnd
    rw [show decide ((0 : Int) ≤ (n : Int) * 64) = true by simp; omega, show decide ((0 : Int) ≤ (m : Int)) = true by simp]
    show (((((n : Int) * 64).toNat &&& (m : Int).toNat : Nat)) : Int) = 0
    rw [show ((n : Int) * 64).toNat = n * 64 by omega, show (m : Int).toNat = m from rfl, and_apart n m (by omega)]
    rfl
  rw [e]; omega
end Mine
end

section
open PySem PySem.W PyProof.Rows
namespace Mine
theorem sq_in {pr fa : Int} (hp0 : 3 ≤ pr) (hp1 : pr ≤ 61) (k : Int) : 0 ≤ sqOf pr fa k ∧ sqOf pr fa k < 4096 := by
  unfold sqOf
  have h := fmod_in (k * fa) (show 0 < pr by omega)
  generalize (k * fa).fmod pr = x at h
  rw [show (2 : Int).toNat = 2 by decide, Int.pow_succ, Int.pow_succ, Int.pow_zero, Int.one_mul]
  have h1 := Int.mul_nonneg h.1 h.1
  have h2 := Int.mul_le_mul (show x ≤ 60 by omega) (show x ≤ 60 by omega) h.1 (by decide)
  omega

theorem digL_2 {q : Int} (_h : 0 ≤ q) : digL 2 q = [q % 64, q / 64 % 64] := by
  show [(q.fdiv 1).fmod 64, (q.fdiv 64).fmod 64] = _
  simp only [Int.fmod_eq_emod_of_nonneg _ (show (0 : Int) ≤ 64 by decide), Int.fdiv_eq_ediv_of_nonneg _ (show (0 : Int) ≤ 1 by decide), Int.fdiv_eq_ediv_of_nonneg _ (show (0 : Int) ≤ 64 by decide), Int.fdiv_eq_ediv_of_nonneg _ (show (0 : Int) ≤ 4096 by decide), Int.fdiv_eq_ediv_of_nonneg _ (show (0 : Int) ≤ 262144 by decide), Int.ediv_one]
theorem turnL_2 {pr fa q : Int} {i : Nat} (h : 0 ≤ q) (e : sqOf pr fa (1 + (i : Nat) * 1) = q) : turnL 2 pr fa i = [q % 64 + (1 + (i : Nat) * 1 : Int).fmod 2 * 128, q / 64 % 64 + 192] := by
  unfold turnL
  rw [e, digL_2 h]
  rfl
theorem word_2 {pr fa : Int} (hp0 : 3 ≤ pr) (hp1 : pr ≤ 61) {n i : Nat} (hn : (pr.fdiv 2 + 1 - 1).toNat = n) (hi : i < n) : Builtin.bitAnd (vX (outA (tapeB 2 pr fa).toList 2 n) (i * (2 : Int).toNat) 0) 64 ≠ 0 ∧ Builtin.bitAnd (vX (outA (tapeB 2 pr fa).toList 2 n) (i * (2 : Int).toNat) 1) 64 = 0 ∧ (0 ≤ vY (outA (tapeB 2 pr fa).toList 2 n) (i * (2 : Int).toNat) 0 ∧ vY (outA (tapeB 2 pr fa).toList 2 n) (i * (2 : Int).toNat) 0 ≤ 1000000000) ∧ (0 ≤ vY (outA (tapeB 2 pr fa).toList 2 n) (i * (2 : Int).toNat) 1 ∧ vY (outA (tapeB 2 pr fa).toList 2 n) (i * (2 : Int).toNat) 1 ≤ 1000000000) ∧ vY (outA (tapeB 2 pr fa).toList 2 n) (i * (2 : Int).toNat) 1 = sqOf pr fa (1 + (i : Nat) * 1) := by
  have hq := sq_in (fa := fa) hp0 hp1 (1 + (i : Nat) * 1)
  have hev := fmod_in (1 + (i : Nat) * 1 : Int) (show (0 : Int) < 2 by decide)
  generalize hqe : sqOf pr fa (1 + (i : Nat) * 1) = q at hq
  obtain ⟨hq0, hq1⟩ := hq
  have ht := turnL_2 hq0 hqe
  have x0 := vX_is (wd := 2) (pr := pr) (fa := fa) (by decide) n hn hi (show 0 < (2 : Int).toNat by decide)
  rw [ht] at x0
  have x1 := vX_is (wd := 2) (pr := pr) (fa := fa) (by decide) n hn hi (show 1 < (2 : Int).toNat by decide)
  rw [ht] at x1
  replace x0 : vX (outA (tapeB 2 pr fa).toList 2 n) (i * (2 : Int).toNat) 0 = q / 64 % 64 + 192 := x0
  replace x1 : vX (outA (tapeB 2 pr fa).toList 2 n) (i * (2 : Int).toNat) 1 = q % 64 + (1 + (i : Nat) * 1 : Int).fmod 2 * 128 := x1
  generalize outA (tapeB 2 pr fa).toList 2 n = b at x0 x1 ⊢
  generalize i * (2 : Int).toNat = I at x0 x1 ⊢
  have a0 := and_hi (show 0 ≤ q / 64 % 64 by omega) (show q / 64 % 64 < 64 by omega)
  rw [← x0] at a0
  have a1 := and_lo (show 0 ≤ q % 64 by omega) (show q % 64 < 64 by omega) hev
  rw [← x1] at a1
  have y0 : vY b I 0 = q / 64 % 64 := a0.1
  have y1 : vY b I 1 = (q / 64 % 64) * 64 + q % 64 := by
    show Builtin.bitOr (vY b I 0 * 2 ^ (6 : Int).toNat) (Builtin.bitAnd (vX b I 1) 63) = _
    rw [a1.1, y0]
    exact or_add (by omega) (by omega) (by omega)
  exact ⟨a0.2, a1.2, ⟨by rw [y0]; omega, by rw [y0]; omega⟩, ⟨by rw [y1]; omega, by rw [y1]; omega⟩, by rw [y1]; omega⟩
theorem digL_3 {q : Int} (_h : 0 ≤ q) : digL 3 q = [q % 64, q / 64 % 64, q / 4096 % 64] := by
  show [(q.fdiv 1).fmod 64, (q.fdiv 64).fmod 64, (q.fdiv 4096).fmod 64] = _
  simp only [Int.fmod_eq_emod_of_nonneg _ (show (0 : Int) ≤ 64 by decide), Int.fdiv_eq_ediv_of_nonneg _ (show (0 : Int) ≤ 1 by decide), Int.fdiv_eq_ediv_of_nonneg _ (show (0 : Int) ≤ 64 by decide), Int.fdiv_eq_ediv_of_nonneg _ (show (0 : Int) ≤ 4096 by decide), Int.fdiv_eq_ediv_of_nonneg _ (show (0 : Int) ≤ 262144 by decide), Int.ediv_one]
theorem turnL_3 {pr fa q : Int} {i : Nat} (h : 0 ≤ q) (e : sqOf pr fa (1 + (i : Nat) * 1) = q) : turnL 3 pr fa i = [q % 64 + (1 + (i : Nat) * 1 : Int).fmod 2 * 128, q / 64 % 64 + 64, q / 4096 % 64 + 192] := by
  unfold turnL
  rw [e, digL_3 h]
  rfl
theorem word_3 {pr fa : Int} (hp0 : 3 ≤ pr) (hp1 : pr ≤ 61) {n i : Nat} (hn : (pr.fdiv 2 + 1 - 1).toNat = n) (hi : i < n) : Builtin.bitAnd (vX (outA (tapeB 3 pr fa).toList 3 n) (i * (3 : Int).toNat) 0) 64 ≠ 0 ∧ Builtin.bitAnd (vX (outA (tapeB 3 pr fa).toList 3 n) (i * (3 : Int).toNat) 1) 64 ≠ 0 ∧ Builtin.bitAnd (vX (outA (tapeB 3 pr fa).toList 3 n) (i * (3 : Int).toNat) 2) 64 = 0 ∧ (0 ≤ vY (outA (tapeB 3 pr fa).toList 3 n) (i * (3 : Int).toNat) 0 ∧ vY (outA (tapeB 3 pr fa).toList 3 n) (i * (3 : Int).toNat) 0 ≤ 1000000000) ∧ (0 ≤ vY (outA (tapeB 3 pr fa).toList 3 n) (i * (3 : Int).toNat) 1 ∧ vY (outA (tapeB 3 pr fa).toList 3 n) (i * (3 : Int).toNat) 1 ≤ 1000000000) ∧ (0 ≤ vY (outA (tapeB 3 pr fa).toList 3 n) (i * (3 : Int).toNat) 2 ∧ vY (outA (tapeB 3 pr fa).toList 3 n) (i * (3 : Int).toNat) 2 ≤ 1000000000) ∧ vY (outA (tapeB 3 pr fa).toList 3 n) (i * (3 : Int).toNat) 2 = sqOf pr fa (1 + (i : Nat) * 1) := by
  have hq := sq_in (fa := fa) hp0 hp1 (1 + (i : Nat) * 1)
  have hev := fmod_in (1 + (i : Nat) * 1 : Int) (show (0 : Int) < 2 by decide)
  generalize hqe : sqOf pr fa (1 + (i : Nat) * 1) = q at hq
  obtain ⟨hq0, hq1⟩ := hq
  have ht := turnL_3 hq0 hqe
  have x0 := vX_is (wd := 3) (pr := pr) (fa := fa) (by decide) n hn hi (show 0 < (3 : Int).toNat by decide)
  rw [ht] at x0
  have x1 := vX_is (wd := 3) (pr := pr) (fa := fa) (by decide) n hn hi (show 1 < (3 : Int).toNat by decide)
  rw [ht] at x1
  have x2 := vX_is (wd := 3) (pr := pr) (fa := fa) (by decide) n hn hi (show 2 < (3 : Int).toNat by decide)
  rw [ht] at x2
  replace x0 : vX (outA (tapeB 3 pr fa).toList 3 n) (i * (3 : Int).toNat) 0 = q / 4096 % 64 + 192 := x0
  replace x1 : vX (outA (tapeB 3 pr fa).toList 3 n) (i * (3 : Int).toNat) 1 = q / 64 % 64 + 64 := x1
  replace x2 : vX (outA (tapeB 3 pr fa).toList 3 n) (i * (3 : Int).toNat) 2 = q % 64 + (1 + (i : Nat) * 1 : Int).fmod 2 * 128 := x2
  generalize outA (tapeB 3 pr fa).toList 3 n = b at x0 x1 x2 ⊢
  generalize i * (3 : Int).toNat = I at x0 x1 x2 ⊢
  have a0 := and_hi (show 0 ≤ q / 4096 % 64 by omega) (show q / 4096 % 64 < 64 by omega)
  rw [← x0] at a0
  have a1 := and_mid (show 0 ≤ q / 64 % 64 by omega) (show q / 64 % 64 < 64 by omega)
  rw [← x1] at a1
  have a2 := and_lo (show 0 ≤ q % 64 by omega) (show q % 64 < 64 by omega) hev
  rw [← x2] at a2
  have y0 : vY b I 0 = q / 4096 % 64 := a0.1
  have y1 : vY b I 1 = (q / 4096 % 64) * 64 + q / 64 % 64 := by
    show Builtin.bitOr (vY b I 0 * 2 ^ (6 : Int).toNat) (Builtin.bitAnd (vX b I 1) 63) = _
    rw [a1.1, y0]
    exact or_add (by omega) (by omega) (by omega)
  have y2 : vY b I 2 = ((q / 4096 % 64) * 64 + q / 64 % 64) * 64 + q % 64 := by
    show Builtin.bitOr (vY b I 1 * 2 ^ (6 : Int).toNat) (Builtin.bitAnd (vX b I 2) 63) = _
    rw [a2.1, y1]
    exact or_add (by omega) (by omega) (by omega)
  exact ⟨a0.2, a1.2, a2.2, ⟨by rw [y0]; omega, by rw [y0]; omega⟩, ⟨by rw [y1]; omega, by rw [y1]; omega⟩, ⟨by rw [y2]; omega, by rw [y2]; omega⟩, by rw [y2]; omega⟩
theorem digL_4 {q : Int} (_h : 0 ≤ q) : digL 4 q = [q % 64, q / 64 % 64, q / 4096 % 64, q / 262144 % 64] := by
  show [(q.fdiv 1).fmod 64, (q.fdiv 64).fmod 64, (q.fdiv 4096).fmod 64, (q.fdiv 262144).fmod 64] = _
  simp only [Int.fmod_eq_emod_of_nonneg _ (show (0 : Int) ≤ 64 by decide), Int.fdiv_eq_ediv_of_nonneg _ (show (0 : Int) ≤ 1 by decide), Int.fdiv_eq_ediv_of_nonneg _ (show (0 : Int) ≤ 64 by decide), Int.fdiv_eq_ediv_of_nonneg _ (show (0 : Int) ≤ 4096 by decide), Int.fdiv_eq_ediv_of_nonneg _ (show (0 : Int) ≤ 262144 by decide), Int.ediv_one]
theorem turnL_4 {pr fa q : Int} {i : Nat} (h : 0 ≤ q) (e : sqOf pr fa (1 + (i : Nat) * 1) = q) : turnL 4 pr fa i = [q % 64 + (1 + (i : Nat) * 1 : Int).fmod 2 * 128, q / 64 % 64 + 64, q / 4096 % 64 + 64, q / 262144 % 64 + 192] := by
  unfold turnL
  rw [e, digL_4 h]
  rfl
theorem word_4 {pr fa : Int} (hp0 : 3 ≤ pr) (hp1 : pr ≤ 61) {n i : Nat} (hn : (pr.fdiv 2 + 1 - 1).toNat = n) (hi : i < n) : Builtin.bitAnd (vX (outA (tapeB 4 pr fa).toList 4 n) (i * (4 : Int).toNat) 0) 64 ≠ 0 ∧ Builtin.bitAnd (vX (outA (tapeB 4 pr fa).toList 4 n) (i * (4 : Int).toNat) 1) 64 ≠ 0 ∧ Builtin.bitAnd (vX (outA (tapeB 4 pr fa).toList 4 n) (i * (4 : Int).toNat) 2) 64 ≠ 0 ∧ Builtin.bitAnd (vX (outA (tapeB 4 pr fa).toList 4 n) (i * (4 : Int).toNat) 3) 64 = 0 ∧ (0 ≤ vY (outA (tapeB 4 pr fa).toList 4 n) (i * (4 : Int).toNat) 0 ∧ vY (outA (tapeB 4 pr fa).toList 4 n) (i * (4 : Int).toNat) 0 ≤ 1000000000) ∧ (0 ≤ vY (outA (tapeB 4 pr fa).toList 4 n) (i * (4 : Int).toNat) 1 ∧ vY (outA (tapeB 4 pr fa).toList 4 n) (i * (4 : Int).toNat) 1 ≤ 1000000000) ∧ (0 ≤ vY (outA (tapeB 4 pr fa).toList 4 n) (i * (4 : Int).toNat) 2 ∧ vY (outA (tapeB 4 pr fa).toList 4 n) (i * (4 : Int).toNat) 2 ≤ 1000000000) ∧ (0 ≤ vY (outA (tapeB 4 pr fa).toList 4 n) (i * (4 : Int).toNat) 3 ∧ vY (outA (tapeB 4 pr fa).toList 4 n) (i * (4 : Int).toNat) 3 ≤ 1000000000) ∧ vY (outA (tapeB 4 pr fa).toList 4 n) (i * (4 : Int).toNat) 3 = sqOf pr fa (1 + (i : Nat) * 1) := by
  have hq := sq_in (fa := fa) hp0 hp1 (1 + (i : Nat) * 1)
  have hev := fmod_in (1 + (i : Nat) * 1 : Int) (show (0 : Int) < 2 by decide)
  generalize hqe : sqOf pr fa (1 + (i : Nat) * 1) = q at hq
  obtain ⟨hq0, hq1⟩ := hq
  have ht := turnL_4 hq0 hqe
  have x0 := vX_is (wd := 4) (pr := pr) (fa := fa) (by decide) n hn hi (show 0 < (4 : Int).toNat by decide)
  rw [ht] at x0
  have x1 := vX_is (wd := 4) (pr := pr) (fa := fa) (by decide) n hn hi (show 1 < (4 : Int).toNat by decide)
  rw [ht] at x1
  have x2 := vX_is (wd := 4) (pr := pr) (fa := fa) (by decide) n hn hi (show 2 < (4 : Int).toNat by decide)
  rw [ht] at x2
  have x3 := vX_is (wd := 4) (pr := pr) (fa := fa) (by decide) n hn hi (show 3 < (4 : Int).toNat by decide)
  rw [ht] at x3
  replace x0 : vX (outA (tapeB 4 pr fa).toList 4 n) (i * (4 : Int).toNat) 0 = q / 262144 % 64 + 192 := x0
  replace x1 : vX (outA (tapeB 4 pr fa).toList 4 n) (i * (4 : Int).toNat) 1 = q / 4096 % 64 + 64 := x1
  replace x2 : vX (outA (tapeB 4 pr fa).toList 4 n) (i * (4 : Int).toNat) 2 = q / 64 % 64 + 64 := x2
  replace x3 : vX (outA (tapeB 4 pr fa).toList 4 n) (i * (4 : Int).toNat) 3 = q % 64 + (1 + (i : Nat) * 1 : Int).fmod 2 * 128 := x3
  generalize outA (tapeB 4 pr fa).toList 4 n = b at x0 x1 x2 x3 ⊢
  generalize i * (4 : Int).toNat = I at x0 x1 x2 x3 ⊢
  have a0 := and_hi (show 0 ≤ q / 262144 % 64 by omega) (show q / 262144 % 64 < 64 by omega)
  rw [← x0] at a0
  have a1 := and_mid (show 0 ≤ q / 4096 % 64 by omega) (show q / 4096 % 64 < 64 by omega)
  rw [← x1] at a1
  have a2 := and_mid (show 0 ≤ q / 64 % 64 by omega) (show q / 64 % 64 < 64 by omega)
  rw [← x2] at a2
  have a3 := and_lo (show 0 ≤ q % 64 by omega) (show q % 64 < 64 by omega) hev
  rw [← x3] at a3
  have y0 : vY b I 0 = q / 262144 % 64 := a0.1
  have y1 : vY b I 1 = (q / 262144 % 64) * 64 + q / 4096 % 64 := by
    show Builtin.bitOr (vY b I 0 * 2 ^ (6 : Int).toNat) (Builtin.bitAnd (vX b I 1) 63) = _
    rw [a1.1, y0]
    exact or_add (by omega) (by omega) (by omega)
  have y2 : vY b I 2 = ((q / 262144 % 64) * 64 + q / 4096 % 64) * 64 + q / 64 % 64 := by
    show Builtin.bitOr (vY b I 1 * 2 ^ (6 : Int).toNat) (Builtin.bitAnd (vX b I 2) 63) = _
    rw [a2.1, y1]
    exact or_add (by omega) (by omega) (by omega)
  have y3 : vY b I 3 = (((q / 262144 % 64) * 64 + q / 4096 % 64) * 64 + q / 64 % 64) * 64 + q % 64 := by
    show Builtin.bitOr (vY b I 2 * 2 ^ (6 : Int).toNat) (Builtin.bitAnd (vX b I 3) 63) = _
    rw [a3.1, y2]
    exact or_add (by omega) (by omega) (by omega)
  exact ⟨a0.2, a1.2, a2.2, a3.2, ⟨by rw [y0]; omega, by rw [y0]; omega⟩, ⟨by rw [y1]; omega, by rw [y1]; omega⟩, ⟨by rw [y2]; omega, by rw [y2]; omega⟩, ⟨by rw [y3]; omega, by rw [y3]; omega⟩, by rw [y3]; omega⟩
end Mine
end

section
open PySem PySem.W PyProof.Rows
namespace Mine
/-- a list of ints in strict order -/
abbrev Asc (l : List Int) : Prop := l.Pairwise (· < ·)
theorem asc_at {l : List Int} (h : Asc l) {i j : Nat} (hij : i < j) (hj : j < l.length) : l.getD i 0 < l.getD j 0 := by
  have := List.pairwise_iff_getElem.mp h i j (by omega) hj hij
  rw [List.getD_eq_getElem?_getD, List.getD_eq_getElem?_getD, List.getElem?_eq_getElem hj, List.getElem?_eq_getElem (show i < l.length by omega)]
  exact this
/-- bisect_left is right on a list in order -/
theorem bisF_cut {l : List Int} {x : Int} (h : Asc l) : ∀ n lo hi, lo ≤ hi → hi ≤ l.length → hi - lo ≤ n → (∀ i, i < lo → l.getD i 0 < x) → (∀ i, hi ≤ i → i < l.length → x ≤ l.getD i 0) →
    (∀ i, i < bisF l x n lo hi → l.getD i 0 < x) ∧ ∀ i, bisF l x n lo hi ≤ i → i < l.length → x ≤ l.getD i 0
  | 0, lo, hi, h1, h2, h3, a, b => by
    obtain rfl : lo = hi := by omega
    exact ⟨a, b⟩
  | n + 1, lo, hi, h1, h2, h3, a, b => by
    unfold bisF
    by_cases g : lo < hi
    · rw [if_pos g]
      by_cases q : l.getD ((lo + hi) / 2) 0 < x
      · rw [if_pos q]
        refine bisF_cut h n _ hi (by omega) h2 (by omega) (fun i hi' => ?_) b
        by_cases e : i = (lo + hi) / 2
        · rw [e]; exact q
        · exact Int.lt_trans (asc_at h (show i < (lo + hi) / 2 by omega) (by omega)) q
      · rw [if_neg q]
        refine bisF_cut h n lo _ (by omega) (by omega) (by omega) a (fun i hi' hl => ?_)
        by_cases e : i = (lo + hi) / 2
        · rw [e]; omega
        · have := asc_at h (show (lo + hi) / 2 < i by omega) hl
          omega
    · rw [if_neg g]
      obtain rfl : lo = hi := by omega
      exact ⟨a, b⟩
theorem bis_cut {l : List Int} {x : Int} (h : Asc l) : (∀ y ∈ l.take (bis l x), y < x) ∧ ∀ y ∈ l.drop (bis l x), x ≤ y := by
  have c := bisF_cut (x := x) h l.length 0 l.length (Nat.zero_le _) (Nat.le_refl _) (by omega) (fun i hi => absurd hi (Nat.not_lt_zero _)) (fun i h1 h2 => by omega)
  constructor
  · intro y hy
    obtain ⟨i, hi, e⟩ := List.mem_iff_getElem.mp hy
    rw [List.getElem_take] at e
    rw [List.length_take] at hi
    have := c.1 i (by unfold bis at hi; omega)
    rw [List.getD_eq_getElem?_getD, List.getElem?_eq_getElem (show i < l.length by omega)] at this
    rw [← e]; exact this
  · intro y hy
    obtain ⟨i, hi, e⟩ := List.mem_iff_getElem.mp hy
    rw [List.getElem_drop] at e
    rw [List.length_drop] at hi
    have := c.2 (bis l x + i) (by unfold bis; omega) (by omega)
    rw [List.getD_eq_getElem?_getD, List.getElem?_eq_getElem (show bis l x + i < l.length by omega)] at this
    rw [← e]; exact this
/-- a number put into its place -/
def putS (acc : List Int) (x : Int) : List Int := putAt acc (bis acc x) x
theorem putS_mem {l : List Int} {x y : Int} : y ∈ putS l x ↔ y = x ∨ y ∈ l := by
  unfold putS putAt
  rw [List.mem_append, List.mem_cons]
  constructor
  · rintro (h | h | h)
    · exact .inr (List.mem_of_mem_take h)
    · exact .inl h
    · exact .inr (List.mem_of_mem_drop h)
  · rintro (h | h)
    · exact .inr (.inl h)
    · rw [← List.take_append_drop (bis l x) l] at h
      rcases List.mem_append.mp h with h | h
      · exact .inl h
      · exact .inr (.inr h)
theorem putS_asc {l : List Int} {x : Int} (h : Asc l) (hx : x ∉ l) : Asc (putS l x) := by
  obtain ⟨c1, c2⟩ := bis_cut (x := x) h
  have h' := h
  rw [← List.take_append_drop (bis l x) l] at h'
  obtain ⟨p1, p2, p3⟩ := List.pairwise_append.mp h'
  unfold putS putAt
  have c3 : ∀ y ∈ l.drop (bis l x), x < y := fun y hy => by
    have := c2 y hy
    have : x ≠ y := fun e => hx (e ▸ List.mem_of_mem_drop hy)
    omega
  refine List.pairwise_append.mpr ⟨p1, List.pairwise_cons.mpr ⟨c3, p2⟩, fun a ha b hb => ?_⟩
  rcases List.mem_cons.mp hb with rfl | hb
  · exact c1 a ha
  · exact p3 a ha b hb
/-- two lists in strict order with the same numbers are one -/
theorem asc_ext : ∀ {a b : List Int}, Asc a → Asc b → (∀ x, x ∈ a ↔ x ∈ b) → a = b
  | [], [], _, _, _ => rfl
  | [], y :: b, _, _, h => absurd ((h y).mpr (.head _)) (List.not_mem_nil)
  | x :: a, [], _, _, h => absurd ((h x).mp (.head _)) (List.not_mem_nil)
  | x :: a, y :: b, ha, hb, h => by
    obtain ⟨a1, a2⟩ := List.pairwise_cons.mp ha
    obtain ⟨b1, b2⟩ := List.pairwise_cons.mp hb
    have e : x = y := by
      rcases List.mem_cons.mp ((h x).mp (.head _)) with e | hx
      · exact e
      · rcases List.mem_cons.mp ((h y).mpr (.head _)) with e | hy
        · exact e.symm
        · have := a1 y hy; have := b1 x hx; omega
    subst e
    congr 1
    refine asc_ext a2 b2 fun z => ⟨fun hz => ?_, fun hz => ?_⟩
    · rcases List.mem_cons.mp ((h z).mp (.tail _ hz)) with e | hz'
      · have := a1 z hz; omega
      · exact hz'
    · rcases List.mem_cons.mp ((h z).mpr (.tail _ hz)) with e | hz'
      · have := b1 z hz; omega
      · exact hz'
theorem putS_len (l : List Int) (x : Int) : (putS l x).length = l.length + 1 := putAt_len _ _ _
/-- the list of the residues after the turns -/
def resG (v : Nat → Int) : Nat → List Int
  | 0 => []
  | n + 1 => putS (resG v n) (v n)
theorem resG_mem (v : Nat → Int) : ∀ n y, y ∈ resG v n ↔ ∃ k, k < n ∧ y = v k
  | 0, y => ⟨fun h => absurd h List.not_mem_nil, fun ⟨_, h, _⟩ => absurd h (Nat.not_lt_zero _)⟩
  | n + 1, y => by
    rw [resG, putS_mem, resG_mem v n y]
    constructor
    · rintro (h | ⟨k, hk, h⟩)
      · exact ⟨n, Nat.lt_succ_self _, h⟩
      · exact ⟨k, Nat.lt_succ_of_lt hk, h⟩
    · rintro ⟨k, hk, h⟩
      by_cases e : k = n
      · subst e; exact .inl h
      · exact .inr ⟨k, by omega, h⟩
theorem resG_asc {v : Nat → Int} : ∀ n, (∀ i j, i < j → j < n → v i ≠ v j) → Asc (resG v n)
  | 0, _ => List.Pairwise.nil
  | n + 1, h => putS_asc (resG_asc n fun i j hij hj => h i j hij (by omega)) fun hm => by
    obtain ⟨k, hk, e⟩ := (resG_mem v n _).mp hm
    exact h k n hk (Nat.lt_succ_self _) e.symm
theorem resF_is {pr fa : Int} {b : Array UInt8} {wn : Nat} : ∀ n, (∀ i, i < n → vY b (i * wn) (wn - 1) = sqOf pr fa (1 + (i : Nat) * 1)) → resF b pr wn n = resG (fun i => (sqOf pr fa (1 + (i : Nat) * 1)).fmod pr) n
  | 0, _ => rfl
  | n + 1, h => by
    rw [resF, resG, resF_is n (fun i hi => h i (by omega)), h n (by omega)]; rfl
end Mine
end

section
open PySem PySem.W PyProof.Rows
namespace Mine
theorem asc_len : ∀ {a b : List Int}, Asc a → Asc b → (∀ x ∈ a, x ∈ b) → a.length ≤ b.length
  | [], _, _, _, _ => Nat.zero_le _
  | x :: a, [], _, _, h => absurd (h x (.head _)) List.not_mem_nil
  | x :: a, y :: b, ha, hb, h => by
    obtain ⟨a1, a2⟩ := List.pairwise_cons.mp ha
    obtain ⟨b1, b2⟩ := List.pairwise_cons.mp hb
    by_cases e : x = y
    · subst e
      have := asc_len a2 b2 fun z hz => by
        rcases List.mem_cons.mp (h z (.tail _ hz)) with e | hz'
        · have := a1 z hz; omega
        · exact hz'
      simp only [List.length_cons]; omega
    · have hx : x ∈ b := (List.mem_cons.mp (h x (.head _))).resolve_left e
      have hyx := b1 x hx
      have := asc_len ha b2 fun z hz => by
        rcases List.mem_cons.mp (h z hz) with e | hz'
        · rcases List.mem_cons.mp hz with e' | hz
          · omega
          · have := a1 z hz; omega
        · exact hz'
      simp only [List.length_cons] at this ⊢; omega
theorem asc_eq : ∀ {a b : List Int}, Asc a → Asc b → (∀ x ∈ a, x ∈ b) → b.length ≤ a.length → a = b
  | [], [], _, _, _, _ => rfl
  | [], y :: b, _, _, _, h => absurd h (by simp)
  | x :: a, [], _, _, h, _ => absurd (h x (.head _)) List.not_mem_nil
  | x :: a, y :: b, ha, hb, h, hl => by
    obtain ⟨a1, a2⟩ := List.pairwise_cons.mp ha
    obtain ⟨b1, b2⟩ := List.pairwise_cons.mp hb
    by_cases e : x = y
    · subst e
      congr 1
      refine asc_eq a2 b2 (fun z hz => ?_) (by simpa using hl)
      rcases List.mem_cons.mp (h z (.tail _ hz)) with e | hz'
      · have := a1 z hz; omega
      · exact hz'
    · have hx : x ∈ b := (List.mem_cons.mp (h x (.head _))).resolve_left e
      have hyx := b1 x hx
      have := asc_len ha b2 fun z hz => by
        rcases List.mem_cons.mp (h z hz) with e | hz'
        · rcases List.mem_cons.mp hz with e' | hz
          · omega
          · have := a1 z hz; omega
        · exact hz'
      simp only [List.length_cons] at this hl; omega
/-- the square of what k times fa leaves, left by p -/
theorem val_is {p f i : Nat} {P : Int} (e : P = (p : Int)) : (sqOf P (f : Int) (1 + (i : Nat) * 1)).fmod P = ((((1 + i) * f % p) * ((1 + i) * f % p) % p : Nat) : Int) := by
  have e1 : ((1 + (i : Int) * 1) * (f : Int)).fmod P = (((1 + i) * f % p : Nat) : Int) := by
    rw [e, Int.fmod_eq_emod_of_nonneg _ (by omega), Int.mul_one]
    norm_cast
  unfold sqOf
  rw [e1, e, Int.fmod_eq_emod_of_nonneg _ (by omega), show (2 : Int).toNat = 2 by decide, Int.pow_succ, Int.pow_succ, Int.pow_zero, Int.one_mul]
  norm_cast
theorem resG_is {p f n : Nat} {P : Int} {qs : List Int} (e : P = (p : Int)) (hn : 2 * n < p) (hf0 : 1 ≤ f) (hf1 : f < p)
    (hz : ((List.range p).all fun a => (List.range p).all fun b => a * b % p != 0 || a == 0 || b == 0) = true)
    (hs : ((List.range p).all fun a => (List.range p).all fun b => a * a % p != b * b % p || a == b || a + b == p) = true)
    (hq : ((List.range p).all fun a => qs.contains ((a * a % p : Nat) : Int) || a == 0) = true) (ha : Asc qs) (hl : qs.length = n) :
    resG (fun i => (sqOf P (f : Int) (1 + (i : Nat) * 1)).fmod P) n = qs := by
  have hp : 0 < p := by omega
  have hz' : ∀ a b, a < p → b < p → a ≠ 0 → b ≠ 0 → a * b % p ≠ 0 := fun a b h1 h2 h3 h4 => by
    have := List.all_eq_true.mp (List.all_eq_true.mp hz a (List.mem_range.mpr h1)) b (List.mem_range.mpr h2)
    simp only [Bool.or_eq_true, beq_iff_eq, bne_iff_ne] at this
    rcases this with (h | h) | h
    · exact h
    · exact absurd h h3
    · exact absurd h h4
  have hs' : ∀ a b, a < p → b < p → a * a % p = b * b % p → a = b ∨ a + b = p := fun a b h1 h2 h3 => by
    have := List.all_eq_true.mp (List.all_eq_true.mp hs a (List.mem_range.mpr h1)) b (List.mem_range.mpr h2)
    simp only [Bool.or_eq_true, beq_iff_eq, bne_iff_ne] at this
    rcases this with (h | h) | h
    · exact absurd h3 h
    · exact .inl h
    · exact .inr h
  have hd : ∀ i j, i < j → j < n → (fun i => (sqOf P (f : Int) (1 + (i : Nat) * 1)).fmod P) i ≠ (fun i => (sqOf P (f : Int) (1 + (i : Nat) * 1)).fmod P) j := by
    intro i j hij hj h
    dsimp only at h
    rw [val_is e, val_is e] at h
    rcases hs' _ _ (Nat.mod_lt _ hp) (Nat.mod_lt _ hp) (Int.ofNat.inj h) with g | g
    · have d : (j - i) * f % p = 0 := by
        have e2 : (1 + j) * f = (1 + i) * f + (j - i) * f := by rw [← Nat.add_mul]; congr 1; omega
        rw [e2] at g
        have h3 := Nat.add_mod ((1 + i) * f) ((j - i) * f) p
        rw [← g] at h3
        have h1 := Nat.mod_lt ((1 + i) * f) hp
        have h2 := Nat.mod_lt ((j - i) * f) hp
        clear g h
        generalize (1 + i) * f % p = u at h1 h3
        generalize (j - i) * f % p = v at h2 h3 ⊢
        by_cases q : u + v < p
        · rw [Nat.mod_eq_of_lt q] at h3; omega
        · rw [Nat.mod_eq_sub_mod (by omega), Nat.mod_eq_of_lt (by omega)] at h3; omega
      exact hz' _ _ (by omega) hf1 (by omega) (by omega) d
    · have d : (2 + i + j) * f % p = 0 := by
        have e2 : (2 + i + j) * f = (1 + i) * f + (1 + j) * f := by rw [← Nat.add_mul]; congr 1; omega
        rw [e2, Nat.add_mod, g, Nat.mod_self]
      exact hz' _ _ (by omega) hf1 (by omega) (by omega) d
  refine asc_eq (resG_asc n hd) ha (fun x hx => ?_) ?_
  · obtain ⟨k, hk, rfl⟩ := (resG_mem _ n x).mp hx
    rw [val_is e]
    have hy := hz' (1 + k) f (by omega) hf1 (by omega) (by omega)
    have := List.all_eq_true.mp hq _ (List.mem_range.mpr (Nat.mod_lt ((1 + k) * f) hp))
    simp only [Bool.or_eq_true, beq_iff_eq, List.contains_iff_mem] at this
    exact this.resolve_right hy
  · have : ∀ (v : Nat → Int) m, (resG v m).length = m := by
      intro v m
      induction m with
      | zero => rfl
      | succ m ih => rw [resG, putS_len, ih]
    rw [this, hl]; exact Nat.le_refl _
theorem zT13 : ((List.range 13).all fun a => (List.range 13).all fun b => a * b % 13 != 0 || a == 0 || b == 0) = true := by decide +kernel
theorem qT13 : ((List.range 13).all fun a => (List.range 13).all fun b => a * a % 13 != b * b % 13 || a == b || a + b == 13) = true := by decide +kernel
theorem rT13 : ((List.range 13).all fun a => (qrs 13).contains ((a * a % 13 : Nat) : Int) || a == 0) = true := by decide +kernel
theorem oT13 : Asc (qrs 13) := by decide +kernel
theorem zT17 : ((List.range 17).all fun a => (List.range 17).all fun b => a * b % 17 != 0 || a == 0 || b == 0) = true := by decide +kernel
theorem qT17 : ((List.range 17).all fun a => (List.range 17).all fun b => a * a % 17 != b * b % 17 || a == b || a + b == 17) = true := by decide +kernel
theorem rT17 : ((List.range 17).all fun a => (qrs 17).contains ((a * a % 17 : Nat) : Int) || a == 0) = true := by decide +kernel
theorem oT17 : Asc (qrs 17) := by decide +kernel
theorem zT29 : ((List.range 29).all fun a => (List.range 29).all fun b => a * b % 29 != 0 || a == 0 || b == 0) = true := by decide +kernel
theorem qT29 : ((List.range 29).all fun a => (List.range 29).all fun b => a * a % 29 != b * b % 29 || a == b || a + b == 29) = true := by decide +kernel
theorem rT29 : ((List.range 29).all fun a => (qrs 29).contains ((a * a % 29 : Nat) : Int) || a == 0) = true := by decide +kernel
theorem oT29 : Asc (qrs 29) := by decide +kernel
theorem zT37 : ((List.range 37).all fun a => (List.range 37).all fun b => a * b % 37 != 0 || a == 0 || b == 0) = true := by decide +kernel
theorem qT37 : ((List.range 37).all fun a => (List.range 37).all fun b => a * a % 37 != b * b % 37 || a == b || a + b == 37) = true := by decide +kernel
theorem rT37 : ((List.range 37).all fun a => (qrs 37).contains ((a * a % 37 : Nat) : Int) || a == 0) = true := by decide +kernel
theorem oT37 : Asc (qrs 37) := by decide +kernel
theorem zT41 : ((List.range 41).all fun a => (List.range 41).all fun b => a * b % 41 != 0 || a == 0 || b == 0) = true := by decide +kernel
theorem qT41 : ((List.range 41).all fun a => (List.range 41).all fun b => a * a % 41 != b * b % 41 || a == b || a + b == 41) = true := by decide +kernel
theorem rT41 : ((List.range 41).all fun a => (qrs 41).contains ((a * a % 41 : Nat) : Int) || a == 0) = true := by decide +kernel
theorem oT41 : Asc (qrs 41) := by decide +kernel
theorem zT53 : ((List.range 53).all fun a => (List.range 53).all fun b => a * b % 53 != 0 || a == 0 || b == 0) = true := by decide +kernel
theorem qT53 : ((List.range 53).all fun a => (List.range 53).all fun b => a * a % 53 != b * b % 53 || a == b || a + b == 53) = true := by decide +kernel
theorem rT53 : ((List.range 53).all fun a => (qrs 53).contains ((a * a % 53 : Nat) : Int) || a == 0) = true := by decide +kernel
theorem oT53 : Asc (qrs 53) := by decide +kernel
theorem zT61 : ((List.range 61).all fun a => (List.range 61).all fun b => a * b % 61 != 0 || a == 0 || b == 0) = true := by decide +kernel
theorem qT61 : ((List.range 61).all fun a => (List.range 61).all fun b => a * a % 61 != b * b % 61 || a == b || a + b == 61) = true := by decide +kernel
theorem rT61 : ((List.range 61).all fun a => (qrs 61).contains ((a * a % 61 : Nat) : Int) || a == 0) = true := by decide +kernel
theorem oT61 : Asc (qrs 61) := by decide +kernel
theorem zT5 : ((List.range 5).all fun a => (List.range 5).all fun b => a * b % 5 != 0 || a == 0 || b == 0) = true := by decide +kernel
theorem qT5 : ((List.range 5).all fun a => (List.range 5).all fun b => a * a % 5 != b * b % 5 || a == b || a + b == 5) = true := by decide +kernel
theorem rT5 : ((List.range 5).all fun a => (qrs 5).contains ((a * a % 5 : Nat) : Int) || a == 0) = true := by decide +kernel
theorem oT5 : Asc (qrs 5) := by decide +kernel
theorem resG_qrs {pr fa : Int} (hP : IsP pr) (hf0 : 1 ≤ fa) (hf1 : fa ≤ pr - 1) : resG (fun i => (sqOf pr fa (1 + (i : Nat) * 1)).fmod pr) (pr.fdiv 2).toNat = qrs pr := by
  obtain ⟨f, rfl⟩ := Int.eq_ofNat_of_zero_le (show 0 ≤ fa by omega)
  rcases hP with rfl | rfl | rfl | rfl | rfl | rfl | rfl | rfl
  · exact resG_is (p := 13) (n := 6) rfl (by decide) (by omega) (by omega) zT13 qT13 rT13 oT13 rfl
  · exact resG_is (p := 17) (n := 8) rfl (by decide) (by omega) (by omega) zT17 qT17 rT17 oT17 rfl
  · exact resG_is (p := 29) (n := 14) rfl (by decide) (by omega) (by omega) zT29 qT29 rT29 oT29 rfl
  · exact resG_is (p := 37) (n := 18) rfl (by decide) (by omega) (by omega) zT37 qT37 rT37 oT37 rfl
  · exact resG_is (p := 41) (n := 20) rfl (by decide) (by omega) (by omega) zT41 qT41 rT41 oT41 rfl
  · exact resG_is (p := 53) (n := 26) rfl (by decide) (by omega) (by omega) zT53 qT53 rT53 oT53 rfl
  · exact resG_is (p := 61) (n := 30) rfl (by decide) (by omega) (by omega) zT61 qT61 rT61 oT61 rfl
  · exact resG_is (p := 5) (n := 2) rfl (by decide) (by omega) (by omega) zT5 qT5 rT5 oT5 rfl
theorem half_eq (pr : Int) : (pr.fdiv 2 + 1 - 1).toNat = (pr.fdiv 2).toNat := by rw [Int.add_sub_cancel]
theorem words_ok {pr fa wd : Int} (hp0 : 3 ≤ pr) (hp1 : pr ≤ 61) (hw0 : 2 ≤ wd) (hw1 : wd ≤ 4) : ChunksOk (outA (tapeB wd pr fa).toList wd (pr.fdiv 2).toNat) wd.toNat (pr.fdiv 2).toNat ∧
    ∀ i, i < (pr.fdiv 2).toNat → vY (outA (tapeB wd pr fa).toList wd (pr.fdiv 2).toNat) (i * wd.toNat) (wd.toNat - 1) = sqOf pr fa (1 + (i : Nat) * 1) := by
  rcases (show wd = 2 ∨ wd = 3 ∨ wd = 4 by omega) with rfl | rfl | rfl
  · have w := fun i hi => word_2 (fa := fa) hp0 hp1 (i := i) (half_eq pr) hi
    refine ⟨fun k hk => ?_, fun i hi => ?_⟩
    · obtain ⟨a0, a1, y0, y1, _⟩ := w k hk
      refine ⟨fun j hj => ?_, a1, fun j hj => ?_⟩
      · obtain rfl : j = 0 := by have : (2 : Int).toNat - 1 = 1 := by decide
                                 omega
        exact a0
      · have : (2 : Int).toNat - 1 = 1 := by decide
        rcases (show j = 0 ∨ j = 1 by omega) with rfl | rfl
        · exact y0
        · exact y1
    · obtain ⟨_, _, _, _, y⟩ := w i hi
      exact y
  · have w := fun i hi => word_3 (fa := fa) hp0 hp1 (i := i) (half_eq pr) hi
    refine ⟨fun k hk => ?_, fun i hi => ?_⟩
    · obtain ⟨a0, a1, a2, y0, y1, y2, _⟩ := w k hk
      have e3 : (3 : Int).toNat - 1 = 2 := by decide
      refine ⟨fun j hj => ?_, a2, fun j hj => ?_⟩
      · rcases (show j = 0 ∨ j = 1 by omega) with rfl | rfl
        · exact a0
        · exact a1
      · rcases (show j = 0 ∨ j = 1 ∨ j = 2 by omega) with rfl | rfl | rfl
        · exact y0
        · exact y1
        · exact y2
    · obtain ⟨_, _, _, _, _, _, y⟩ := w i hi
      exact y
  · have w := fun i hi => word_4 (fa := fa) hp0 hp1 (i := i) (half_eq pr) hi
    refine ⟨fun k hk => ?_, fun i hi => ?_⟩
    · obtain ⟨a0, a1, a2, a3, y0, y1, y2, y3, _⟩ := w k hk
      have e4 : (4 : Int).toNat - 1 = 3 := by decide
      refine ⟨fun j hj => ?_, a3, fun j hj => ?_⟩
      · rcases (show j = 0 ∨ j = 1 ∨ j = 2 by omega) with rfl | rfl | rfl
        · exact a0
        · exact a1
        · exact a2
      · rcases (show j = 0 ∨ j = 1 ∨ j = 2 ∨ j = 3 by omega) with rfl | rfl | rfl | rfl
        · exact y0
        · exact y1
        · exact y2
        · exact y3
    · obtain ⟨_, _, _, _, _, _, _, _, y⟩ := w i hi
      exact y
theorem chunks_ok {pr fa wd : Int} (hP : IsP pr) (_hf0 : 1 ≤ fa) (_hf1 : fa ≤ pr - 1) (hw0 : 2 ≤ wd) (hw1 : wd ≤ 4) : ChunksOk (outA (tapeB wd pr fa).toList wd (pr.fdiv 2).toNat) wd.toNat (pr.fdiv 2).toNat :=
  (words_ok (by have := hP.pos; omega) hP.pos.2 hw0 hw1).1
theorem res_is {pr fa wd : Int} (hP : IsP pr) (hf0 : 1 ≤ fa) (hf1 : fa ≤ pr - 1) (hw0 : 2 ≤ wd) (hw1 : wd ≤ 4) : resF (outA (tapeB wd pr fa).toList wd (pr.fdiv 2).toNat) pr wd.toNat (pr.fdiv 2).toNat ++ [] = qrs pr := by
  rw [List.append_nil, resF_is _ (words_ok (by have := hP.pos; omega) hP.pos.2 hw0 hw1).2]
  exact resG_qrs hP hf0 hf1
end Mine
end

section
open PySem PySem.W PyProof.Rows
namespace Mine
theorem law_no_raise (args : List WData) : ∀ cls, PySem.Challenge.rw_wf0009_01.row.claim.raises args cls = false := raisesW_false (by wrow_none_raised)
theorem law_post (args : List WData) : PySem.Challenge.rw_wf0009_01.row.claim.post args (.bool true) args = true := by wrow_post
end Mine
end

section
theorem Mine.freshLaw : True := by
  w_top off
  trivial
open PySem PySem.W PyProof.Rows
namespace Mine
-- words of one's own are asked first
local macro_rules | `(tactic| walk_at $s:str) => `(tactic| k_extra $s)
-- the def's body is entered
local macro_rules | `(tactic| walk_at "m_enter") => `(tactic| k_dflt (refine' code_def ?k1 ?k2 ?k3 ?k4 ?k5 ?kA ?kF ?kK ?k6 ?k7 ?k8 ?k9 ?kB ?_ ?c2 ?c3 ?c4 ?c5; (case kA => exact rfl); (case kF => exact rfl); (case kK => assumption); (case k1 => k_asm); (case k2 => k_asm); (case k3 => k_asm); (case k4 => k_asm); (case k5 => k_asm); (case k6 => k_is); (case k7 => k_is); (case k8 => ktr_room); (case k9 => (refine' kp_binds ?kx ?ke; (case kx => k_in); (case ke => exact fun _ => rfl))); (case c5 => decide); (case kB => exact locs rfl); (case c2 => exact rfl); (case c3 => exact rfl); (case c4 => exact rfl); k_whole; intro g' L' h' FG' F' N' B' X' T'; (try dsimp only); (try k_fold)))
-- steps, as far as they go
local macro_rules | `(tactic| walk_at "m_steps") => `(tactic| repeat' (first | (k_unfold; (try dsimp only)) | walk1 | (dsimp only; walk1) | (leave1; walk_say "STEP leave1"; (try dsimp only)) | fail "no step"))
-- a contract's premises at a call
local macro_rules | `(tactic| walk_at "m_use") => `(tactic| ((case k1 => k_asm); (case k2 => k_asm); (case k3 => k_asm); (case k5 => k_asm); (case kK => first | exact rfl | assumption); (case kd => ((simp only [Around.deeper, ktrTop] at *); omega)); (case ku => ((simp only [Around.deeper, ktrTop] at *); omega))))
local macro_rules | `(tactic| units_room) => `(tactic| (simp only [units_in1, units_deeper, Around.mark_units, ktrTop]; omega))
-- a turn's end over a ledger with an unwritten tail
local macro_rules | `(tactic| walk_at "UnrEnd") => `(tactic| (refine UnrEnd.intro (by assumption) (by assumption) _ (fun p hp => hp) (by first | exact lt_off (by assumption) | exact allLt_off (by assumption)) ?_))
-- steps, up to a loop's iterator
local macro_rules | `(tactic| walk_at "m_toIter") => `(tactic| repeat' ((fail_if_success (with_reducible show wpAny _ _ (pyIter _) _ _ _)); first | (k_unfold; (try dsimp only)) | walk1 | (dsimp only; walk1) | (leave1; walk_say "STEP leave1"; (try dsimp only)) | fail "no step"))
-- the same over clean stacks
local macro_rules | `(tactic| walk_at "m_enterC") => `(tactic| k_dflt (refine' codeC_def ?k1 ?k2 ?k3 ?k4 ?k5 ?kA ?kF ?kK ?k6 ?k7 ?k8 ?k9 ?kB ?_ ?c2 ?c3 ?c4 ?c5; (case kA => exact rfl); (case kF => exact rfl); (case kK => assumption); (case k1 => k_asm); (case k2 => k_asm); (case k3 => k_asm); (case k4 => k_asm); (case k5 => k_asm); (case k6 => k_is); (case k7 => k_is); (case k8 => ktr_room); (case k9 => (refine' kp_binds ?kx ?ke; (case kx => k_in); (case ke => exact fun _ => rfl))); (case c5 => decide); (case kB => exact locs rfl); (case c2 => exact rfl); (case c3 => exact rfl); (case c4 => exact rfl); k_whole; intro g' L' h' tk' FG' F' N' B' X' T'; (try dsimp only)))
-- the same for a def with cells
local macro_rules | `(tactic| walk_at "m_enterCells") => `(tactic| k_dflt (refine' code_defC ?k1 ?k2 ?k3 ?k4 ?k5 ?kA ?kF ?kK ?k6 ?k7 ?k8 ?k9 ?kB ?kD ?_ ?c2 ?c3 ?c4; (case kA => exact rfl); (case kF => exact rfl); (case kK => assumption); (case k1 => k_asm); (case k2 => k_asm); (case k3 => k_asm); (case k4 => k_asm); (case k5 => k_asm); (case k6 => k_is); (case k7 => k_is); (case k8 => ktr_room); (case k9 => (refine' kp_binds ?kx ?ke; (case kx => k_in); (case ke => exact fun _ => rfl))); (case kB => exact rfl); (case kD => decide +kernel); (case c2 => exact rfl); (case c3 => exact rfl); (case c4 => exact rfl); k_whole; intro g' L' h' tk' cells' FG' F' N' Y' B' X' T' l1; k_cells Y'; (try simp only [List.cons_append, List.nil_append] at N'); (try dsimp only); (try k_fold)))
-- an unwritten ledger tail lies off
local macro_rules | `(tactic| k_all) => `(tactic| first | assumption | exact lt_off (by assumption) | exact allLt_off (by assumption))
-- steps, up to a call of a def
local macro_rules | `(tactic| walk_at "m_toCall") => `(tactic| repeat' ((fail_if_success (with_reducible show wpAny _ _ (call (.ref _) _) _ _ _)); first | (k_unfold; (try dsimp only)) | walk1 | (dsimp only; walk1) | (leave1; walk_say "STEP leave1"; (try dsimp only)) | fail "no step"))
-- steps, up to an item's asking
local macro_rules | `(tactic| walk_at "m_toSub") => `(tactic| repeat' ((fail_if_success (with_reducible show wpAny _ _ (subscriptTail _ _ _ _) _ _ _)); first | (k_unfold; (try dsimp only)) | walk1 | (dsimp only; walk1) | (leave1; walk_say "STEP leave1"; (try dsimp only)) | fail "no step"))
theorem rot3 {α : Type} (a b c : α) (l : List α) : ∀ p ∈ c :: a :: b :: l, p ∈ a :: b :: c :: l := fun p hp => by
  rcases List.mem_cons.mp hp with rfl | hp
  · exact .tail _ (.tail _ (.head _))
  · rcases List.mem_cons.mp hp with rfl | hp
    · exact .head _
    · rcases List.mem_cons.mp hp with rfl | hp
      · exact .tail _ (.head _)
      · exact .tail _ (.tail _ (.tail _ hp))
theorem rot3b {α : Type} (a b c : α) (l : List α) : ∀ p ∈ a :: b :: c :: l, p ∈ c :: a :: b :: l := fun p hp => by
  rcases List.mem_cons.mp hp with rfl | hp
  · exact .tail _ (.head _)
  · rcases List.mem_cons.mp hp with rfl | hp
    · exact .tail _ (.tail _ (.head _))
    · rcases List.mem_cons.mp hp with rfl | hp
      · exact .head _
      · exact .tail _ (.tail _ (.tail _ hp))
theorem news_rot3 {h₀ : Heap} {L : Addr} {h : Heap} {a b c : Addr × Obj} {l : List (Addr × Obj)} (N : News h₀ L h (a :: b :: c :: l)) : News h₀ L h (c :: a :: b :: l) := News.perm N (rot3 a b c l)
theorem news_rot3b {h₀ : Heap} {L : Addr} {h : Heap} {a b c : Addr × Obj} {l : List (Addr × Obj)} (N : News h₀ L h (c :: a :: b :: l)) : News h₀ L h (a :: b :: c :: l) := News.perm N (rot3b a b c l)
theorem gen_toks {P : Shared → Prop} {s : Shared} (h : ∀ tk, P { s with toks := tk }) : P s := h s.toks
theorem news_cut1 {h₀ : Heap} {L : Addr} {h : Heap} {a : Addr × Obj} {rest : List (Addr × Obj)} (N : News h₀ L h (a :: rest)) : News h₀ L h rest := cb_drop N fun _ hp => .tail _ hp
theorem news_cut4 {h₀ : Heap} {L : Addr} {h : Heap} {a b c d e : Addr × Obj} {rest : List (Addr × Obj)} (N : News h₀ L h (a :: b :: c :: d :: e :: rest)) : News h₀ L h (a :: rest) :=
  cb_drop N fun _ hp => (List.mem_cons.mp hp).elim (fun e => e ▸ .head _) fun hp => .tail _ (.tail _ (.tail _ (.tail _ (.tail _ hp))))
set_option maxRecDepth 100000 in
set_option maxHeartbeats 8000000 in
theorem law_holds : PySem.Challenge.rw_wf0009_01.Holds := hd (by
  k_fill
  intro w s₀ s₁ mg mb G Y fa o pm cd doc dV kV ho hdd hcd hD hmg hg args vals as hpre hlay hrd hwl hlo
  have KX := kIn_of Y
  clear Y
  refine Ground.open G ?_
  intro T B D TE TW
  try (refine guard_noD D (by decide +kernel) ?_; clear D)
  obtain ⟨_, _, M⟩ := bmod_of_top T
  have TA := at_of_top T
  try (obtain ⟨_, _, he, B0⟩ := based_of_top T rfl hmg ho hdd; have he' : cd = _ := he; subst he'; clear he)
  clear hmg
  wrow_args hpre hlay hrd hwl hlo
  rename IntsAre _ _ => hvi
  rename ¬ _ < _ => hlen63
  rename Heap.IsList _ _ _ => hxs
  rename_i xl _ _
  refine enterC ?_
  w_top on
  have K0 := below_caller (Top.heap T)
  have he := Dflts.none hD rfl
  subst he
  have he := Dflts.noKw hD
  subst he
  refine callC_cellsN (by decide) ho (fd_plain hdd) (Top.nolimit T) hcd rfl (kinds_of (by kinds_ok)) (by decide) fun h₁ tk₁ cells F N0 X0 => ?_
  obtain ⟨o1, o2, hE, d1, d2⟩ := CellsAre.two X0
  subst hE
  clear X0
  have e1 : o1.data = .cell none := d1
  have e2 : o2.data = .cell none := d2
  clear d1 d2
  have F1 : Fr s₁.heap s₁.heap.objs.size h₁ (fun z => if z = Str.ofString "script" then some (.ref _) else none) := F
  clear F
  clear hdd TA
  k_drop
  try k_fold
  refine execsC_step ?_
  walk_at "m_steps"
  k_with "subscriptTail List cons Slice ref ref" => (k_dflt (refine' slice_temp (ms := List.drop _ [1,4,2,6,0]) ?zzF ?zzN ?zzl ?zzp ?zzq ?zzm ?_ ?zzs ?zzz; (case zzF => k_asm); (case zzN => k_asm); (case zzl => exact News.isList (by k_asm) (by k_mem)); (case zzp => exact IsPart.int _ _); (case zzq => exact IsPart.none) ; (case zzm => exact kmk_from (.cons 1 _ (.cons 4 _ (.cons 2 _ (.cons 6 _ (.cons 0 _ .nil))))) (Int.natCast_nonneg _)); (case zzs => with_unfolding_all rfl); (case zzz => exact small_fits (n := 5) (by decide))); intro D' ws' h' F' N' l1 hI'; (try k_lt l1); (try k_sweep))
  refine execsC_step ?_
  walk_at "m_steps"
  rename News _ _ _ _ => N3
  rename Fr _ _ _ _ => F3
  rename IntsAre _ (_ ++ List.drop _ _) => hI3
  rename IntsAre _ (List.drop _ _) => hx1
  rename IntsAre _ (List.map _ _) => hx2
  rename IntsAre _ (List.take _ _) => hx3
  obtain ⟨c0, c1, c2, c3, c4, hc, b0, b1, b2, b3, b4⟩ := cells_five _
  rw [hc] at hI3
  clear hc hx1 hx2 hx3
  replace N3 := news_cut4 N3
  refine gen_toks (P := fun s => wpC _ _ _ _ _ s) ?_
  intro tk3
  dsimp only
  k_drop
  have hm0 := fmod_in c0 (show (0 : Int) < 8 by decide)
  k_with "subscriptTail Name Constant ref int" => (refine' item_is (ns := [c0, c1, c2, c3, c4]) (by exact rfl) ?zzl ?zzi ?zz0 ?zzn ?zzf ?_ ?zzs; (case zzl => exact News.isList (by k_asm) (by k_mem)); (case zzi => assumption); (case zz0 => decide); (case zzf => decide); (case zzn => exact (by simp)); (case zzs => with_unfolding_all rfl); intro t9)
  k_with "subscriptTail Tuple cons BinOp ref int" => (refine' item_prime ?zzl ?zzi ?zz0 ?zzn ?_ ?zzs; (case zzl => exact News.isTup (by k_asm) (by k_mem)); (case zzi => exact (.cons 13 _ (.cons 17 _ (.cons 29 _ (.cons 37 _ (.cons 41 _ (.cons 53 _ (.cons 61 _ (.cons 5 _ .nil))))))))); (case zz0 => exact hm0.1); (case zzn => exact hm0.2); (case zzs => with_unfolding_all rfl); intro pr t9 hP)
  refine execsC_step ?_
  walk_at "m_steps"
  rename News _ _ _ _ => N4
  rename Fr _ _ _ _ => F4
  rename _ = Data.cell (some (Value.int _ _)) => e3
  replace N4 := news_cut1 N4
  refine gen_toks (P := fun s => wpC _ _ _ _ _ s) ?_
  intro tk4
  dsimp only
  k_drop
  clear hm0
  have hp := IsP.pos hP
  obtain ⟨hp5, hp61⟩ := hp
  have hm1 := fmod_in c1 (show (0 : Int) < pr - 1 by omega)
  have hm4 := fmod_in c4 (show (0 : Int) < 3 by decide)
  refine execsC_cons (assignC ?_)
  refine callEC ?_
  walk_at "m_steps"
  refine callWithC_K (by assumption) (by k_is) ?_
  refine argsC_cons (wpC_of ?_)
  walk_at "m_steps"
  refine argsC_cons (wpC_of ?_)
  walk_at "m_steps"
  refine argsC_cons (wpC_of ?_)
  walk_at "m_steps"
  refine argsC_nil ⟨by k_in, ?_⟩
  dsimp only
  refine doesC_use (residues_does _ pr (1 + c1.fmod (pr - 1)) (2 + c4.fmod 3) _ _ _ _ (by omega) (by omega) (by omega) (by omega) (by omega) (by omega) (chunks_ok hP (by omega) (by omega) (by omega) (by omega))) (by k_asm) (by k_asm) (by assumption) (by k_asm) (by k_asm) rfl ?_ ?_ ?_
  · decide
  · decide
  intro r8 news8 h8 tk8 F8 N8 P8
  obtain ⟨D8, us8, e9, i8, e8, l8⟩ := P8
  subst e9
  subst e8
  rw [res_is hP (by omega) (by omega) (by omega) (by omega)] at i8
  dsimp only
  walk_at "m_steps"
  rename News _ _ _ _ => N5
  simp only [List.cons_append, List.nil_append] at N5
  rename Fr _ _ _ _ => F5
  rename _ = Data.cell (some (Value.ref _)) => e5
  refine gen_toks (P := fun s => wpC _ _ _ _ _ s) ?_
  intro tk5
  dsimp only
  k_drop
  have hpd : 0 ≤ pr.fdiv 2 ∧ pr.fdiv 2 ≤ 30 := by
    rw [Int.fdiv_eq_ediv_of_nonneg _ (by decide)]; omega
  obtain ⟨hpd0, hpd1⟩ := hpd
  have hE := qrs_filter hP
  have hql := qrs_len hP
  k_with "binaryOp Pow int int" => ((refine' pow_num hp61 hpd0 hpd1 (by assumption) (by assumption) ?_); (try dsimp only))
  refine execsC_step ?_
  walk_at "m_steps"
  rename News _ _ _ _ => N6
  rename Fr _ _ _ _ => F6
  replace N6 := news_cut1 N6
  rename IntsAre _ (List.foldl _ _ _) => hx1
  clear hx1
  refine gen_toks (P := fun s => wpC _ _ _ _ _ s) ?_
  intro tk6
  dsimp only
  k_drop
  clear hE hpd0 hpd1 hm1 hm4
  refine execsC_step ?_
  walk_at "m_toCall"
  refine' does_use (squares_does _ pr _ _ hP) ?k1 ?k2 ?k3 ?k4 ?k5 ?kK ?kd ?ku ?_
  (case k1 => k_asm)
  (case k2 => k_asm)
  (case k3 => k_asm)
  (case k5 => k_asm)
  (case kK => exact rfl)
  (case kd => decide)
  (case ku => decide)
  (case k4 => k_asm)
  intro r9 news9 h9 tk9 F9 N9 P9
  obtain ⟨T9, od, ev, t1, t2, e8, e7, hsq⟩ := P9
  subst e8
  subst e7
  (try dsimp only)
  walk_at "m_steps"
  rename News _ _ _ _ => N7
  rename Fr _ _ _ _ => F7
  replace N7 := news_cut1 N7
  refine gen_toks (P := fun s => wpC _ _ _ _ _ s) ?_
  intro tk7
  dsimp only
  k_drop
  k_with "compareOp NotIn int ref" => (refine' notin_list_ints (ns := qrs pr) ?zzl ?zzi ?_; (case zzl => exact News.isList (by k_asm) (by k_mem)); (case zzi => assumption))
  refine execsC_step ?_
  walk_at "m_toSub"
  refine' item_is (ns := lackL pr) (lack_strg hP) ?zzl ?zzi ?zz0 ?zzn ?zzf ?_ ?zzs
  (case zzl => exact News.isList (by k_asm) (by k_mem))
  (case zzi => assumption)
  (case zz0 => decide)
  (case zzf => decide)
  (case zzn => exact lack_len hP)
  (case zzs => with_unfolding_all rfl)
  intro t10
  walk_at "m_steps"
  rename News _ _ _ _ => N8
  rename Fr _ _ _ _ => F8
  replace N8 := news_cut1 N8
  rename IntsAre _ (List.foldl _ _ _) => hx1
  clear hx1
  refine gen_toks (P := fun s => wpC _ _ _ _ _ s) ?_
  intro tk8
  dsimp only
  k_drop
  have hst := strg_in hP
  refine execsC_step ?_
  walk_at "m_steps"
  refine gen_toks (P := fun s => wpC _ _ _ _ _ s) ?_
  intro tk9
  dsimp only
  refine execsC_step ?_
  walk_at "m_steps"
  refine gen_toks (P := fun s => wpC _ _ _ _ _ s) ?_
  intro tk10
  dsimp only
  k_drop
  rename News _ _ _ _ => N10
  rename Fr _ _ _ _ => F10
  have hm2 := fmod_in c2 (show (0 : Int) < pr - 1 by omega)
  have hm3 := fmod_in c3 (show (0 : Int) < pr - 1 by omega)
  have hsh : 1 ≤ 1 + (List.getD [c0, c1, c2, c3, c4] (Int.toNat 2) 0).fmod (pr - 1) ∧ 1 + (List.getD [c0, c1, c2, c3, c4] (Int.toNat 2) 0).fmod (pr - 1) < pr := by
    show 1 ≤ 1 + c2.fmod (pr - 1) ∧ 1 + c2.fmod (pr - 1) < pr
    omega
  have hsc : 1 ≤ 1 + (List.getD [c0, c1, c2, c3, c4] (Int.toNat 3) 0).fmod (pr - 1) ∧ 1 + (List.getD [c0, c1, c2, c3, c4] (Int.toNat 3) 0).fmod (pr - 1) < pr := by
    show 1 ≤ 1 + c3.fmod (pr - 1) ∧ 1 + c3.fmod (pr - 1) < pr
    omega
  generalize 1 + (List.getD [c0, c1, c2, c3, c4] (Int.toNat 2) 0).fmod (pr - 1) = sh at hsh F10
  generalize 1 + (List.getD [c0, c1, c2, c3, c4] (Int.toNat 3) 0).fmod (pr - 1) = sc at hsc F10
  obtain ⟨hsh0, hsh1⟩ := hsh
  obtain ⟨hsc0, hsc1⟩ := hsc
  clear hm2 hm3
  have hql9 : (qrs pr).length ≤ 1000 := by omega
  rename IntsAre _ (qrs pr) => i10
  refine execsC_step ?_
  walk_at "m_toCall"
  refine' does_use (sign_does _ _ _ _ _ _ _ _ i10 hql9) ?k1 ?k2 ?k3 ?k4 ?k5 ?kK ?kd ?ku ?_
  (case k1 => k_asm)
  (case k2 => k_asm)
  (case k3 => k_asm)
  (case k5 => k_asm)
  (case kK => exact rfl)
  (case kd => decide)
  (case ku => decide)
  (case k4 => k_asm)
  intro r9 news9 h9 tk9 F9 N9 P9
  obtain ⟨t9, e8, e7⟩ := P9
  subst e8
  subst e7
  (try dsimp only)
  walk_at "m_steps"
  rename News _ _ _ _ => N11
  rename Fr _ _ _ _ => F11
  refine gen_toks (P := fun s => wpC _ _ _ _ _ s) ?_
  intro tk11
  dsimp only
  k_drop
  refine execsC_step ?_
  walk_at "m_toCall"
  have hp01 : 0 < pr := by omega
  have hp02 : pr ≤ 1000 := by omega
  refine' does_use (half_does _ _ _ _ _ _ _ _ _ _ i10 hql9 hp01 hp02 (by omega) (by omega)) ?k1 ?k2 ?k3 ?k4 ?k5 ?kK ?kd ?ku ?_
  (case k1 => k_asm)
  (case k2 => k_asm)
  (case k3 => k_asm)
  (case k5 => k_asm)
  (case kK => exact rfl)
  (case kd => decide)
  (case ku => decide)
  (case k4 => exact news_rot3 (by k_asm))
  intro r9 news9 h9 tk9 F9 N9 P9
  obtain ⟨t9, e8, e7⟩ := P9
  subst e8
  subst e7
  replace N9 := news_rot3b N9
  (try dsimp only)
  walk_at "m_toCall"
  have hf1 := fmod_in (sh * sc * sc) hp01
  refine' does_use (half_does _ _ _ _ _ _ _ _ _ _ i10 hql9 hp01 hp02 hf1.1 (by omega)) ?k1 ?k2 ?k3 ?k4 ?k5 ?kK ?kd ?ku ?_
  (case k1 => k_asm)
  (case k2 => k_asm)
  (case k3 => k_asm)
  (case k5 => k_asm)
  (case kK => exact rfl)
  (case kd => decide)
  (case ku => decide)
  (case k4 => exact news_rot3 (by k_asm))
  intro r9 news9 h9 tk9 F9 N9 P9
  obtain ⟨t9, e8, e7⟩ := P9
  subst e8
  subst e7
  replace N9 := news_rot3b N9
  (try dsimp only)
  have hJ1 := jac_sq hP hsh0 hsh1 hsc0 hsc1
  have hA1 := jac_abs hP hsh0 hsh1 hsq
  have hB1 := jac_bnd hP hsh0 hsh1
  have hS1 := sgn_in (qrs pr) sc
  obtain ⟨hB1, hB2⟩ := hB1
  obtain ⟨hS1, hS2⟩ := hS1
  k_with "compareOp In int ref" => (refine' in_list_ints (ns := qrs pr) ?zzl ?zzi ?_; (case zzl => exact News.isList (by k_asm) (by k_mem)); (case zzi => assumption))
  walk_at "m_toCall"
  all_goals try (exfalso; first | exact abs_t hA1 (by assumption) (by assumption) | exact abs_f hA1 (by assumption) (by assumption) | exact absurd hJ1 (by assumption))
  all_goals (
    have hst2 := strg_at hP hsh0 hsh1
    obtain ⟨hst3, hst4⟩ := hst2
    refine' does_use (half_does _ _ _ _ _ _ _ _ _ _ i10 hql9 hp01 hp02 (by omega) (by omega)) ?k1 ?k2 ?k3 ?k4 ?k5 ?kK ?kd ?ku ?_
    (case k1 => k_asm)
    (case k2 => k_asm)
    (case k3 => k_asm)
    (case k5 => k_asm)
    (case kK => exact rfl)
    (case kd => decide)
    (case ku => decide)
    (case k4 => exact news_rot3 (by k_asm))
    intro r9 news9 h9 tk9 F9 N9 P9
    obtain ⟨t9, e8, e7⟩ := P9
    subst e8
    subst e7
    replace N9 := news_rot3b N9
    (try dsimp only)
    walk_at "m_toCall"
    have hf2 := fmod_in ((sh * strg pr).fmod pr * sc * sc) hp01
    refine' does_use (half_does _ _ _ _ _ _ _ _ _ _ i10 hql9 hp01 hp02 hf2.1 (by omega)) ?k1 ?k2 ?k3 ?k4 ?k5 ?kK ?kd ?ku ?_
    (case k1 => k_asm)
    (case k2 => k_asm)
    (case k3 => k_asm)
    (case k5 => k_asm)
    (case kK => exact rfl)
    (case kd => decide)
    (case ku => decide)
    (case k4 => exact news_rot3 (by k_asm))
    intro r9 news9 h9 tk9 F9 N9 P9
    obtain ⟨t9, e8, e7⟩ := P9
    subst e8
    subst e7
    replace N9 := news_rot3b N9
    (try dsimp only)
    have hJ2 := jac_sq hP hst3 hst4 hsc0 hsc1
    have hA2 := jac_abs hP hst3 hst4 hsq
    have hB2 := jac_bnd hP hst3 hst4
    obtain ⟨hB3, hB4⟩ := hB2
    walk_at "m_steps"
    all_goals try (exfalso; first | exact abs_t hA2 (by assumption) (by assumption) | exact abs_f hA2 (by assumption) (by assumption) | exact absurd hJ2 (by assumption)))
  all_goals dsimp only
  all_goals refine execsC_step ?_
  all_goals walk_at "m_steps"
  k_with_none
  all_goals (
    dsimp only
    rename Fr _ _ _ _ => Fz
    exact GoodW.toG (goodW_bool Fz hg (law_no_raise _) (law_post _)))
  skip)
end Mine
end
theorem PySem.Challenge.cw_wf0009_01_holds : PySem.Challenge.rw_wf0009_01.Holds :=
  Mine.law_holds
