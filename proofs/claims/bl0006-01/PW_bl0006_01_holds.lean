import PyProof.Rows.All
import Wide.All
import OpenK.AllK
import Wide.FinOn
import Lean
import PySem.Challenge.RW_bl0006_01
set_option Elab.async false
set_option maxRecDepth 100000
-- Head
set_option maxRecDepth 100000
namespace Mine
open PySem PySem.W PySem.W.X PySem.Spec PySem.Calls PyProof.Rows

def callerΓ : PySem.Ctx := ⟨.builtin "claim.caller" {}, none, none, [], none⟩

/-- what a call from the caller's own context must show -/
abbrev FromCaller (M : Model) (t : Sem Value) (Q : Value → Shared → Prop) (E : Value → Shared → Prop) (s : Shared) : Prop :=
  Sem.wp M callerΓ t (fun v _ s' => Q v s') (fun e _ s' => E e s') default s

theorem caller_ends {prog : Program} {w : World} {t : Sem PySem.Fin} {s : Shared} {R : Result → Shared → Prop} (hz : s.asleep)
    (h : Sem.wp (model prog w) callerΓ t (fun fin _ s' => ∃ f, fin = .done f ∧ (R (.ok f) s' ∧ AllBare s'.gens)) (fun e _ s' => R (.error e) s' ∧ AllBare s'.gens) default s) :
    ∃ n r s' s'', runN (denote table) prog w n s ⟨t, .builtin "claim.caller" {}, default, []⟩ = .halted (outcomeOf r) s' ∧
      schedN (denote table) prog w n (.single s ⟨t, .builtin "claim.caller" {}, default, []⟩) = .halted (outcomeOf r) s' ∧ s'.forget = s''.forget ∧ R r s'' := by
  have h' : Sem.wp (model prog w) callerΓ t (Sem.finPost (model prog w) callerΓ fun r s' => R r s' ∧ leftWithCleanup s'.gens = false)
      (fun e _ s' => R (.error e) s' ∧ leftWithCleanup s'.gens = false) default s :=
    Sem.wp_mono _ _ t (fun fin p' s' q => by
      obtain ⟨f, rfl, a, b⟩ := q
      exact ⟨a, leftWithCleanup_false_of_bare b⟩) (fun e p' s' q => ⟨q.1, leftWithCleanup_false_of_bare q.2⟩) default s h
  obtain ⟨n, r, s₁, s₂, hs, hn, hfo, hR⟩ := wp_halts_full (M := model prog w) (R := R) hz h'
  exact ⟨n, r, s₂, s₁, hn, hs, hfo, hR⟩

theorem callFrom_caller {c : ClaimW} {tree : List Value → Sem PySem.Fin} {w : World} {s : Shared} {free : Addr → Prop} {gens : Prop} {kept : Heap → Prop} (hz : s.asleep) (hgens : s.gens = #[])
    (hspec : ∀ args, c.pre args = true → WData.layableAll args = true → ∀ ord : List DictEntry → List DictEntry, (∀ l, (ord l).Perm l) →
      ∃ vs s₁, layAllW c.records (classAt s.heap) w.params ord args s = some (vs, s₁) ∧
        Sem.wp (model c.prog w) callerΓ (tree vs) (fun fin _ s' => ∃ f, fin = .done f ∧ ((c.Ends s args vs s₁ (.ok f) s' ∧ s'.os = s.os ∧ kept s'.heap) ∧ AllBare s'.gens))
          (fun e _ s' => (c.Ends s args vs s₁ (.error e) s' ∧ s'.os = s.os ∧ kept s'.heap) ∧ AllBare s'.gens) default s₁) :
    c.CallFrom (fun vs => ⟨tree vs, .builtin "claim.caller" {}, default, []⟩) w free gens kept s := by
  intro args hpre hlay ord hord
  obtain ⟨vs, s₁, hlaid, hcode⟩ := hspec args hpre hlay ord hord
  have hal := layAllW_rest _ _ _ hlaid
  obtain ⟨k, r, s', s'', hrun, hsched, hfo, hcase, hos, hkp⟩ := caller_ends (prog := c.prog) (w := w) (t := tree vs) (s := s₁)
    (R := fun r s' => c.Ends s args vs s₁ r s' ∧ s'.os = s.os ∧ kept s'.heap) (Shared.asleep_of_life hal.2.2.2 hz) hcode
  obtain ⟨eh, _, _, eo, _⟩ := Shared.forget_eq hfo
  have hcase := hcase.congr eh
  have hkp : kept s'.heap := by rw [eh]; exact hkp
  rw [← eo] at hos
  have hlife : s'.heap.life = s.heap.life := (runN_life _ _ _ hrun).trans hal.2.2.2
  refine ⟨vs, s₁, hlaid, k, _, s', hsched, ?_, (fun _ i x hx => by rw [hgens] at hx; simp at hx), hkp, by rw [hlife], Shared.rest_eq hos⟩
  rcases hcase with ⟨v, rfl, d1, d2, d3, d4, d5⟩ | ⟨e, ob, cls, rfl, d1, d2, d3, d4, d5⟩
  · exact .inl ⟨v, rfl, d1, d2, d3, fun b o y _ => d4 b o y, d5⟩
  · exact .inr ⟨e, ob, cls, rfl, d1, d2, d3, d4, fun b o y _ => d5 b o y⟩

theorem open_caller {r : RowW} {run : Value → List Value → Sem Value} {tree : List Value → Sem PySem.Fin} {q : Program} {loose defs kps : List Str} {writes : Bool} {Xt : Shared → Bool} {XP : (Str → Option Value) → Heap → Prop} {α : Type} {Yf : Shared → α} {Ya : World → α} {N : Nat}
    (left : LeftO r.prog q loose Xt Yf Ya N) (hX : ∀ s, Xt s = true → XP (s.heap.nsMap mainGlobals) s.heap) (hXk : ∀ mg h h', XP mg h → (∀ b o, h.get? b = some o → h'.get? b = some o) → XP mg h')
    (hRf : ∀ s, Xt s = true → RecFacts r.records s.heap) (hwr : (!writes || r.records.isEmpty) = true) (ok : (chainsOk q && opensWell r.prog && (frees r && r.within.isEmpty)) = true) (hb : r.prog.bare) (hw : r.promised)
    (ht : ∀ vs (w : World) (s : Shared) mg f (Q : PySem.Fin → Shared → Prop) (E : Value → Shared → Prop), s.heap.Ns mainGlobals mg → mg r.name = some f → FromCaller (model r.prog w) (run f vs) (fun v s' => Q (.done (.ret v)) s') E s →
      Sem.wp (model r.prog w) callerΓ (tree vs) (fun fin _ s' => Q fin s') (fun e _ s' => E e s') default s)
    (pin : ∀ w s, s.heap.isNs mainGlobals = true → Ground q loose [] XP w s (s.heap.nsMap mainGlobals) (s.heap.nsMap builtinsNs) s.heap → ∀ n ∈ defs, isTheDefsW r.prog s.heap n)
    (call : ∀ (w : World) (s₀ s₁ : Shared) (mg mb : Str → Option Value), Ground q loose r.records XP w s₀ mg mb s₁.heap → Yf s₀ = Ya w → ∀ (args : List WData) (vs : List Value) (as : List Addr),
      r.claim.pre args = true → WData.layableAll args = true → Laid r.records w s₀ s₁ args vs as → sysModules < s₀.heap.objs.size → ∃ f, mg r.name = some f ∧
        FromCaller (model r.prog w) (run f vs) (fun v s' => GoodWG r.claim (classAt s₀.heap) (ExcName.means s₀.heap) args s₁ (.ok (.ret v)) s')
          (fun e s' => GoodWG r.claim (classAt s₀.heap) (ExcName.means s₀.heap) args s₁ (.error e) s') s₁) : r.claim.HoldsOpenBy (fun vs => ⟨tree vs, .builtin "claim.caller" {}, default, []⟩) defs kps writes := by
  obtain ⟨ok, k5⟩ := Bool.and_eq_true_iff.mp ok
  obtain ⟨hch, o1⟩ := Bool.and_eq_true_iff.mp ok
  obtain ⟨k5, k6⟩ := Bool.and_eq_true_iff.mp k5
  obtain ⟨hsame, hu, ha, hap, hm⟩ := frees_parts k5
  refine ⟨⟨hb, o1, by show r.makers.map _ = []; rw [hm]; rfl⟩, hw.witness, fun w => ⟨(left.behind hX hch w).1, fun s' hs' => ?_⟩⟩
  obtain ⟨s₀, hf, hg0, s, hT, hz, hgens, hg, G00, y⟩ := (left.behind (XP := fun mg h => XP mg h ∧ RecFacts r.records h) (fun s hs => ⟨hX s hs, hRf s hs⟩) hch w).2 s' hs'
  have G0 : Ground q loose [] XP w s (s.heap.nsMap mainGlobals) (s.heap.nsMap builtinsNs) s.heap := ⟨G00.T, G00.B, G00.D, G00.TE, G00.TD, G00.W, G00.X.1, G00.cls, G00.has, G00.apart, G00.once, G00.K⟩
  have RF := G00.X.2
  have hT' := hT
  refine ⟨s₀, hf, hg0, s, hT, pin w s hg G0, RF.1, RF.2.1, ?_⟩
  have hgens : s.gens = #[] := Array.eq_empty_of_size_eq_zero (beq_iff_eq.mp hgens)
  have G : Ground q loose r.records XP w s _ _ s.heap := RF.ground G0
  refine callFrom_caller (c := r.claim) hz hgens fun args hpre hlay ord hord => ?_
  obtain ⟨⟨vs, s₁⟩, hlaid⟩ := Option.isSome_iff_exists.mp (layAllW_isSome (P := w.params) (ord := ord) G.has args r.args s (pre_splitW hpre).1)
  have keeps := layAllW_keeps _ _ _ hlaid
  have hal := layAllW_rest _ _ _ hlaid
  obtain ⟨as, hrd, hin, hold⟩ := reads_layAllW hord _ _ _ hlaid hlay s₁.heap (fun _ _ e => e)
  have L : Laid r.records w s s₁ args vs as := ⟨⟨ord, hord, hlaid⟩, hrd, hin, hold, keeps, hal.1.trans hgens, hal.2.2.1⟩
  obtain ⟨f, hf, h⟩ := call w s s₁ _ _ (G.keeps hXk keeps) y args vs as hpre hlay L G.low
  have hi := ident_freeW hu ha hap
  have hwi : r.claim.within = [] := List.isEmpty_iff.mp k6
  have fin : ∀ res s', GoodWG r.claim (classAt s.heap) (ExcName.means s.heap) args s₁ res s' → (r.claim.Ends s args vs s₁ res s' ∧ s'.os = s.os ∧ (writes = true → namesKept r.claim.prog kps s.heap s'.heap ∧ ∀ x ∈ r.claim.records, ∀ a, classAt s.heap x.1 = some a → recordClass s'.heap a x.1 (x.2.map (·.1)) = true)) ∧ AllBare s'.gens := fun res s' g => by
    have z := g.laid (c := r.claim) hsame hwi hi L
    exact ⟨⟨z.1, z.2.1, fun q => ⟨namesKept_of hT' hg kps keeps g.2.1.old, noTable hwr q⟩⟩, z.2.2⟩
  refine ⟨vs, s₁, hlaid, ht vs w s₁ _ f _ _ (G.keeps hXk keeps).T.g hf ?_⟩
  refine Sem.wp_mono _ _ _ (fun v _ s' g => ?_) (fun e _ s' g => fin _ s' g) default s₁ h
  exact ⟨_, rfl, fin _ s' g⟩

/-- the walk as my `z_head` hands it on -/
abbrev WalkC (q : Program) (loose : List Str) (XP : (Str → Option Value) → Heap → Prop) {α : Type} (Yf : Shared → α) (Ya : World → α) (r : RowW) (d : DefRec) (kwd : List (Str × Expr)) : Prop :=
  ∀ (w : World) (s₀ s₁ : Shared) (mg mb : Str → Option Value), Ground q loose r.records XP w s₀ mg mb s₁.heap → Yf s₀ = Ya w → ∀ (a : Addr) (o : Obj) (pm cd doc dV kV : Value), s₁.heap.get? a = some o →
    o.data = .func { docDef d.name d.params d.body d.scope pm cd doc with defaults := dV, kwdefaults := kV } → s₁.heap.CodeRec cd d.name → Dflts mg s₁.heap d.params kwd dV kV → mg d.name = some (.ref a) → s₁.gens = #[] →
    ∀ (args : List WData) (vals : List Value) (as : List Addr), Laid r.records w s₀ s₁ args vals as → r.claim.pre args = true → WData.layableAll args = true → ReadsAllW r.records (classAt s₀.heap) s₁.heap vals args as → WellAll w.params s₁.heap vals args → (∀ a ∈ as, (a == sysModules) = false) →
      FromCaller (model r.prog w) (PySem.call (.ref a) vals) (fun v s' => GoodWG r.claim (classAt s₀.heap) (ExcName.means s₀.heap) args s₁ (.ok (.ret v)) s')
        (fun e s' => GoodWG r.claim (classAt s₀.heap) (ExcName.means s₀.heap) args s₁ (.error e) s') s₁

/-- a premise that is handed on by the context -/
class Given (Y : outParam Prop) : Prop where
  is : Y
theorem PySem.W.holds_openX {Y : Prop} [given : Given Y] {r : OpenRow} {q : Program} {loose : List Str} {Xt : Shared → Bool} {XP : (Str → Option Value) → Heap → Prop} {α : Type} {Yf : Shared → α} {Ya : World → α} {d : DefRec} {kwd : List (Str × Expr)} {N : Nat}
    (left : LeftO r.prog q loose Xt Yf Ya N)
    (hX : ∀ s, Xt s = true → XP (s.heap.nsMap mainGlobals) s.heap) (hXk : ∀ mg h h', XP mg h → (∀ b o, h.get? b = some o → h'.get? b = some o) → XP mg h')
    (hdef : defOf q r.name = some (d, kwd)) (hp : r.prog.theDef r.name = some (d.params, d.body, d.scope)) (hk : kwWritten? d.params.kwonlyargs d.params.kw_defaults = some kwd) (hRf : ∀ s, Xt s = true → RecFacts r.records s.heap) (hwr : (!r.writes || r.records.isEmpty) = true)
    (k1 : r.wellSaid = true) (ok : (chainsOk q && opensWell r.prog && (frees r.toRowW && r.within.isEmpty)) = true) (hb : r.prog.bare) (hw : r.toRowW.promised)
    (hY : Y = WalkC q loose XP Yf Ya r.toRowW d kwd) : r.Holds := by
  have call : WalkC q loose XP Yf Ya r.toRowW d kwd := hY ▸ given.is
  refine ⟨k1, hw, open_caller (r := r.toRowW) (run := fun f vs => PySem.call f vs) (tree := fun vs => do match ← nsGet mainNs r.name with
      | some f => do ret (← PySem.call f vs)
      | none => unsupported "claim.caller:no-such-global") left hX hXk hRf hwr ok hb hw
    (fun vs w s mg f Q E hg hf h => ?_) (fun w s hg G n hn => ?_) fun w s₀ s₁ mg mb G Y args vs as hpre hlay L low => ?_⟩
  · rw [Sem.wp_bind']
    refine (Sem.wp_nsGet _ _ _ _ _ hg _ _).mpr ?_
    have hf : mg r.name = some f := hf
    rw [hf]
    show Sem.wp _ _ (PySem.call f vs >>= fun x => ret x) _ _ _ _
    rw [Sem.wp_bind']
    exact h
  · obtain rfl : n = r.name := by split at hn <;> simp_all
    exact pinned_of_view hg G hdef hp hk
  · obtain ⟨a, o, pm, cd, doc, dV, kV, h1, h2, h3, h4, h5⟩ := G.fn hdef
    exact ⟨.ref a, h1, call w s₀ s₁ mg mb G Y a o pm cd doc dV kV h2 h3 h4 h5 (defOf_name hdef ▸ h1) L.gens args vs as L hpre hlay L.reads L.well (L.low low)⟩
end Mine

-- Ev
set_option maxRecDepth 100000
open PySem PySem.W PySem.W.X
namespace Mine

noncomputable def den (c : Code) : Sem PySem.Fin := PySem.W.Fast.tw11892475500146522536 PySem.W.Fast.tw14364793385576792824 c
theorem den_eq : denote table = den := by
  rw [table_eq_tree, PySem.W.Fast.te11892475500146522536, PySem.W.Fast.te14364793385576792824]
  rfl

/-- a caller that waits -/
structure KFr where
  ctx : Ctx
  p : Pos
  k : Result → Sem PySem.Fin

inductive Out where
  | done (r : Result) (T : BT) (m i : Nat) (ch : Ch)
  | fuel (Γ : Ctx) (p : Pos) (κ : List KFr) (t : Sem PySem.Fin) (T : BT) (m i : Nat) (ch : Ch)
  | ask (Γ : Ctx) (p : Pos) (κ : List KFr) (k : Setting → Sem PySem.Fin) (T : BT) (m i : Nat) (ch : Ch)
  | call (Γ : Ctx) (p : Pos) (κ : List KFr) (c : Code) (hd : Option Value) (g : Bool) (l : List Value) (k : Result → Sem PySem.Fin) (T : BT) (m i : Nat) (ch : Ch)
  | code (Γ : Ctx) (p : Pos) (κ : List KFr) (c : Code) (T : BT) (m i : Nat) (ch : Ch)
  | stuck (n a : Nat)

/-- what does not change in a run -/
structure St where
  set : Setting
  n₁ : Nat
  kt : KT
  tabs : List (Addr × Addr)
  t₀ : Nat

abbrev RTy := BT → Nat → Nat → Ch → Out
abbrev STy := Nat → Ctx → Pos → List KFr → Sem PySem.Fin → RTy

noncomputable def retE (ih : STy) (q : Nat) (κ : List KFr) (r : Result) : RTy :=
  @List.rec KFr (fun _ => RTy) (fun T m i ch => .done r T m i ch) (fun f κ' _ => @KFr.rec (fun _ => RTy) (fun Γ p k => ih q Γ p κ' (k r)) f) κ
def stuckE (n a : Nat) : RTy := fun _ _ _ _ => .stuck n a
noncomputable def codeE (ih : STy) (q : Nat) (Γ : Ctx) (p : Pos) (κ : List KFr) (c : Code) : RTy :=
  @Nat.rec (fun _ => RTy) (fun T m i ch => .code Γ p κ c T m i ch) (fun q' _ => @Bool.rec (fun _ => RTy) (stuckE 5 0) (ih q' (Γ.goto c) p κ (den c)) c.quiet) q
noncomputable def pureE (ih : STy) (q : Nat) (Γ : Ctx) (p : Pos) (κ : List KFr) (fin : PySem.Fin) : RTy :=
  @PySem.Fin.rec (fun _ => RTy) (fun f => retE ih q κ (.ok f)) (fun c' => codeE ih q Γ p κ c') fin
noncomputable def lookE (V : St) (T : BT) (ch : Ch) (a : Addr) : Option Obj :=
  @Bool.rec (fun _ => Option Obj) (T.get (Nat.sub a V.n₁)) (@Option.rec (Array Value) (fun _ => Option Obj) (V.kt.get a) (fun vs => some (tableObj vs)) (chLook ch a)) (Nat.blt a V.n₁)
noncomputable def loadE (V : St) (ih : STy) (q : Nat) (Γ : Ctx) (p : Pos) (κ : List KFr) (a : Addr) (k : Obj → Sem PySem.Fin) : RTy := fun T m i ch =>
  @Option.rec Obj (fun _ => Out) (.stuck 1 a) (fun o => ih q Γ p κ (k o) T m i ch) (lookE V T ch a)
noncomputable def allocE (V : St) (ih : STy) (q : Nat) (Γ : Ctx) (p : Pos) (κ : List KFr) (o : Obj) (k : Addr → Sem PySem.Fin) : RTy := fun T m i ch =>
  @Bool.rec (fun _ => Out) (@Option.rec Obj (fun _ => Out) (.stuck 3 m) (fun _ => ih q Γ p κ (k (Nat.add V.n₁ m)) (T.ins m o) (Nat.succ m) i ch) ((T.ins m o).get m)) (.stuck 2 0) o.isFreed
def memN : List (Addr × Addr) → Nat → Bool
  | [], _ => false
  | b :: l, a => match Nat.beq b.1 a with | true => true | false => memN l a
noncomputable def tabAt (V : St) (a : Addr) : Option (Array Value) :=
  @Bool.rec (fun _ => Option (Array Value)) none (@Option.rec Obj (fun _ => Option (Array Value)) none (fun o => tabOf o) (V.kt.get a)) (memN V.tabs a)
noncomputable def nowE (V : St) (ch : Ch) (a : Addr) : Option (Array Value) :=
  @Option.rec (Array Value) (fun _ => Option (Array Value)) (tabAt V a) (fun vs => some vs) (chLook ch a)
noncomputable def updE (V : St) (ih : STy) (q : Nat) (Γ : Ctx) (p : Pos) (κ : List KFr) (a : Addr) (f : Obj → Obj) (k : Unit → Sem PySem.Fin) : RTy := fun T m i ch =>
  @Bool.rec (fun _ => Out)
    (@Option.rec Obj (fun _ => Out) (.stuck 3 a) (fun o => @Bool.rec (fun _ => Out) (ih q Γ p κ (k ()) (T.set (Nat.sub a V.n₁) f) m i ch) (.stuck 2 a) (f o).isFreed) (T.get (Nat.sub a V.n₁)))
    (@Option.rec (Array Value) (fun _ => Out) (.stuck 6 a)
      (fun vs => @Option.rec (Array Value) (fun _ => Out) (.stuck 4 a)
        (fun vs' => @Option.rec (List Value) (fun _ => Out) (.stuck 4 a) (fun _ => ih q Γ p κ (k ()) T m i (chPut ch a vs')) (strip vs.toList vs'.toList)) (tabOf (f (tableObj vs))))
      (nowE V ch a))
    (Nat.blt a V.n₁)
noncomputable def callE (ih : STy) (q : Nat) (Γ : Ctx) (p : Pos) (κ : List KFr) (c : Code) (hd : Option Value) (g : Bool) (l : List Value) (k : Result → Sem PySem.Fin) : RTy :=
  @Nat.rec (fun _ => RTy) (fun T m i ch => .call Γ p κ c hd g l k T m i ch) (fun q' _ => ih q' (Γ.enter c hd p) p (⟨Γ, p, k⟩ :: κ) (den c)) q
noncomputable def askE (V : St) (ih : STy) (q : Nat) (Γ : Ctx) (p : Pos) (κ : List KFr) (k : Setting → Sem PySem.Fin) : RTy :=
  @Nat.rec (fun _ => RTy) (fun T m i ch => .ask Γ p κ k T m i ch) (fun q' _ => ih q' Γ p κ (k V.set)) q

noncomputable def stepE (V : St) (ih : STy) (q : Nat) (Γ : Ctx) (p : Pos) (κ : List KFr) (t : Sem PySem.Fin) : RTy :=
  @Sem.rec PySem.Fin (fun _ => RTy)
    (fun fin => pureE ih q Γ p κ fin)
    (fun e => retE ih q κ (.error e))
    (fun _ => stuckE 100 0)
    (fun _ => stuckE 30 0)
    (fun _ k _ => ih q Γ p κ (k ()))
    (fun p' k _ => ih q Γ p' κ (k ()))
    (fun a _ k _ => loadE V ih q Γ p κ a k)
    (fun a _ f k _ => updE V ih q Γ p κ a f k)
    (fun o k _ => allocE V ih q Γ p κ o k)
    (fun a k _ => loadE V ih q Γ p κ a fun o => k (some o))
    (fun _ k _ => ih q Γ p κ (k ()))
    (fun _ _ _ => stuckE 31 0)
    (fun k _ T m i ch => ih q Γ p κ (k (Nat.add V.t₀ i)) T m (Nat.succ i) ch)
    (fun k _ => askE V ih q Γ p κ k)
    (fun _ _ _ _ => stuckE 32 0)
    (fun _ _ _ _ => stuckE 33 0)
    (fun c hd g l k _ => callE ih q Γ p κ c hd g l k)
    (fun own k _ => ih q Γ p κ (k (@Bool.rec (fun _ => Option Value) Γ.handled Γ.own own)))
    (fun _ _ _ => stuckE 11 0)
    (fun _ _ _ => stuckE 9 0)
    (fun _ _ _ _ _ => stuckE 10 0)
    (fun _ _ _ _ _ => stuckE 13 0)
    (fun k _ => ih q Γ p κ (k ((Γ.code, p) :: Γ.below)))
    (fun _ _ _ => stuckE 34 0)
    (fun k _ => ih q Γ p κ (k 0))
    (fun _ _ _ _ _ _ => stuckE 36 0)
    t
noncomputable def ev (V : St) (n : Nat) : STy := @Nat.rec (fun _ => STy) (fun _ Γ p κ t T m i ch => .fuel Γ p κ t T m i ch) (fun _ ih q Γ p κ t => stepE V ih q Γ p κ t) n

/-! ### what a run means -/
structure Wd where
  prog : Program
  w : World
  h₀ : Heap
  d : Drawn
  os : OsState
  R : Result → Shared → Prop

abbrev Wd.M (D : Wd) : Model := model D.prog D.w
def Wd.xv (D : Wd) (V : St) : XV := ⟨D.prog, D.w, D.h₀, V.n₁, V.kt, [], callerA, D.R, D.d, V.t₀, D.os⟩
def postK (D : Wd) : List KFr → Result → Shared → Prop
  | [] => D.R
  | f :: κ => fun r s => Sem.wp D.M f.ctx (f.k r) (Sem.finPost D.M f.ctx (postK D κ)) (fun e _ s' => postK D κ (.error e) s') f.p s
def Wk (D : Wd) (Γ : Ctx) (p : Pos) (κ : List KFr) (t : Sem PySem.Fin) (s : Shared) : Prop :=
  Sem.wp D.M Γ t (Sem.finPost D.M Γ (postK D κ)) (fun e _ s' => postK D κ (.error e) s') p s
structure Ok (D : Wd) (V : St) : Prop where
  set : V.set = ⟨D.prog, D.w.params⟩
  size : D.h₀.objs.size = V.n₁
  kt : V.kt.Holds D.h₀ 1 0
  tabs : ∀ a vs, tabAt V a = some vs → ∃ c, D.h₀.TableAt c a vs
def sh (D : Wd) (V : St) (h : Heap) (i : Nat) : Shared := ⟨h, #[], D.d, V.t₀ + i, D.os⟩
def Good (D : Wd) (V : St) : Out → Prop
  | .done r T m i ch => ∀ h, Rep (D.xv V) h T m ch → D.R r (sh D V h i)
  | .fuel Γ p κ t T m i ch => ∀ h, Rep (D.xv V) h T m ch → Wk D Γ p κ t (sh D V h i)
  | .ask Γ p κ k T m i ch => ∀ h, Rep (D.xv V) h T m ch → Wk D Γ p κ (.ask k) (sh D V h i)
  | .call Γ p κ c hd g l k T m i ch => ∀ h, Rep (D.xv V) h T m ch → Wk D Γ p κ (.call c hd g l k) (sh D V h i)
  | .code Γ p κ c T m i ch => ∀ h, Rep (D.xv V) h T m ch → Wk D Γ p κ (.pure (.again c)) (sh D V h i)
  | .stuck .. => False

section
variable {D : Wd} {V : St}
theorem Ok.xv (O : Ok D V) : (D.xv V).Ok := ⟨O.size, O.kt, fun _ _ e => (nomatch e)⟩
theorem lookE_eq (V : St) (D : Wd) (T : BT) (ch : Ch) (a : Addr) : lookE V T ch a = look (D.xv V) T ch a := by
  unfold lookE look
  show _ = match Nat.blt a V.n₁ with | true => (match chLook ch a with | some vs => some (tableObj vs) | none => V.kt.get a) | false => T.get (a - V.n₁)
  cases Nat.blt a V.n₁ with
  | true => cases chLook ch a <;> rfl
  | false => rfl
theorem wk_code (O : Ok D V) {Γ : Ctx} {p : Pos} {κ : List KFr} {c : Code} {s : Shared} (hq : c.quiet = true) (h : Wk D (Γ.goto c) p κ (den c) s) : Wk D Γ p κ (.pure (.again c)) s := by
  refine ⟨hq, ?_⟩
  rw [wpCode_iff_wp]
  show Sem.wp _ _ (denote table c) _ _ _ _
  rw [den_eq]
  exact h
theorem wk_call {Γ : Ctx} {p : Pos} {κ : List KFr} {c : Code} {hd : Option Value} {g : Bool} {l : List Value} {k : Result → Sem PySem.Fin} {s : Shared}
    (h : Wk D (Γ.enter c hd p) p (⟨Γ, p, k⟩ :: κ) (den c) s) : Wk D Γ p κ (.call c hd g l k) s := by
  unfold Wk
  rw [Sem.wp_call, wpCode_iff_wp]
  show Sem.wp _ _ (denote table c) _ _ _ _
  rw [den_eq]
  exact h
theorem ret_sound {ih : STy} {q : Nat} (IH : ∀ q Γ p κ t T m i ch, Good D V (ih q Γ p κ t T m i ch) → ∀ h, Rep (D.xv V) h T m ch → Wk D Γ p κ t (sh D V h i))
    {κ : List KFr} {r : Result} {T : BT} {m i : Nat} {ch : Ch} (H : Good D V (retE ih q κ r T m i ch)) {h : Heap} (D' : Rep (D.xv V) h T m ch) : postK D κ r (sh D V h i) := by
  cases κ with
  | nil => exact H h D'
  | cons f κ => exact IH _ _ _ _ _ _ _ _ _ H h D'
theorem step_sound (O : Ok D V) {ih : STy} (IH : ∀ q Γ p κ t T m i ch, Good D V (ih q Γ p κ t T m i ch) → ∀ h, Rep (D.xv V) h T m ch → Wk D Γ p κ t (sh D V h i)) :
    ∀ q Γ p κ t T m i ch, Good D V (stepE V ih q Γ p κ t T m i ch) → ∀ h, Rep (D.xv V) h T m ch → Wk D Γ p κ t (sh D V h i) := by
  intro q Γ p κ t T m i ch H h D'
  cases t with
  | pure fin =>
    cases fin with
    | done f => exact ret_sound IH (r := .ok f) H D'
    | again c =>
      cases q with
      | zero => exact H h D'
      | succ q' =>
        have H : Good D V (@Bool.rec (fun _ => RTy) (stuckE 5 0) (ih q' (Γ.goto c) p κ (den c)) c.quiet T m i ch) := H
        cases hq : c.quiet with
        | false => rw [hq] at H; cases H
        | true => rw [hq] at H; exact wk_code O hq (IH _ _ _ _ _ _ _ _ _ H h D')
  | raise e => exact ret_sound IH (r := .error e) H D'
  | unsupported _ => cases H
  | finish _ => cases H
  | rule _ k => exact IH _ _ _ _ _ _ _ _ _ H h D'
  | «at» p' k => exact IH _ _ _ _ _ _ _ _ _ H h D'
  | load a _ k =>
    have H : Good D V (@Option.rec Obj (fun _ => Out) (.stuck 1 a) (fun o => ih q Γ p κ (k o) T m i ch) (lookE V T ch a)) := H
    cases e : lookE V T ch a with
    | none => rw [e] at H; cases H
    | some o =>
      rw [e] at H
      rw [lookE_eq V D] at e
      have z := IH _ _ _ _ _ _ _ _ _ H h D'
      exact ⟨o, D'.look O.xv e, z⟩
  | loadIfAlive a k =>
    have H : Good D V (@Option.rec Obj (fun _ => Out) (.stuck 1 a) (fun o => ih q Γ p κ (k (some o)) T m i ch) (lookE V T ch a)) := H
    cases e : lookE V T ch a with
    | none => rw [e] at H; cases H
    | some o =>
      rw [e] at H
      rw [lookE_eq V D] at e
      have z := IH _ _ _ _ _ _ _ _ _ H h D'
      have hl : h.get? a = some o := D'.look O.xv e
      show Sem.wp _ _ (k (h.get? a)) _ _ _ _
      rw [hl]; exact z
  | alloc o k =>
    have H : Good D V (@Bool.rec (fun _ => Out) (@Option.rec Obj (fun _ => Out) (.stuck 3 m) (fun _ => ih q Γ p κ (k (Nat.add V.n₁ m)) (T.ins m o) (Nat.succ m) i ch) ((T.ins m o).get m)) (.stuck 2 0) o.isFreed) := H
    cases hf : o.isFreed with
    | true => rw [hf] at H; cases H
    | false =>
      rw [hf] at H
      have H : Good D V (@Option.rec Obj (fun _ => Out) (.stuck 3 m) (fun _ => ih q Γ p κ (k (Nat.add V.n₁ m)) (T.ins m o) (Nat.succ m) i ch) ((T.ins m o).get m)) := H
      cases e : (T.ins m o).get m with
      | none => rw [e] at H; cases H
      | some o' =>
        rw [e] at H
        have z := IH _ _ _ _ _ _ _ _ _ H (h.push o) (D'.alloc O.xv hf (by rw [e]; rfl))
        have ea : h.objs.size = V.n₁ + m := D'.size
        show Sem.wp _ _ (k h.objs.size) _ _ _ _
        rw [ea]; exact z
  | update a _ f k =>
    have H : Good D V (@Bool.rec (fun _ => Out)
      (@Option.rec Obj (fun _ => Out) (.stuck 3 a) (fun o => @Bool.rec (fun _ => Out) (ih q Γ p κ (k ()) (T.set (Nat.sub a V.n₁) f) m i ch) (.stuck 2 a) (f o).isFreed) (T.get (Nat.sub a V.n₁)))
      (@Option.rec (Array Value) (fun _ => Out) (.stuck 6 a)
        (fun vs => @Option.rec (Array Value) (fun _ => Out) (.stuck 4 a)
          (fun vs' => @Option.rec (List Value) (fun _ => Out) (.stuck 4 a) (fun _ => ih q Γ p κ (k ()) T m i (chPut ch a vs')) (strip vs.toList vs'.toList)) (tabOf (f (tableObj vs))))
        (nowE V ch a))
      (Nat.blt a V.n₁)) := H
    cases hb : Nat.blt a V.n₁ with
    | false =>
      rw [hb] at H
      have H : Good D V (@Option.rec Obj (fun _ => Out) (.stuck 3 a) (fun o => @Bool.rec (fun _ => Out) (ih q Γ p κ (k ()) (T.set (Nat.sub a V.n₁) f) m i ch) (.stuck 2 a) (f o).isFreed) (T.get (Nat.sub a V.n₁))) := H
      cases e : T.get (Nat.sub a V.n₁) with
      | none => rw [e] at H; cases H
      | some o =>
        rw [e] at H
        have H : Good D V (@Bool.rec (fun _ => Out) (ih q Γ p κ (k ()) (T.set (Nat.sub a V.n₁) f) m i ch) (.stuck 2 a) (f o).isFreed) := H
        cases hf : (f o).isFreed with
        | true => rw [hf] at H; cases H
        | false =>
          rw [hf] at H
          have ha : V.n₁ ≤ a := blt_false hb
          have z := IH _ _ _ _ _ _ _ _ _ H _ (D'.update O.xv ha e hf)
          have ho := (D'.own _ _ e).2
          have ho : h.get? a = some o := by
            have : (D.xv V).n₁ + Nat.sub a V.n₁ = a := Nat.add_sub_cancel' ha
            rw [this] at ho; exact ho
          refine ⟨?_, z⟩
          show (h.get? a).isSome = true
          rw [ho]; rfl
    | true =>
      rw [hb] at H
      have H : Good D V (@Option.rec (Array Value) (fun _ => Out) (.stuck 6 a)
        (fun vs => @Option.rec (Array Value) (fun _ => Out) (.stuck 4 a)
          (fun vs' => @Option.rec (List Value) (fun _ => Out) (.stuck 4 a) (fun _ => ih q Γ p κ (k ()) T m i (chPut ch a vs')) (strip vs.toList vs'.toList)) (tabOf (f (tableObj vs))))
        (nowE V ch a)) := H
      cases e : nowE V ch a with
      | none => rw [e] at H; cases H
      | some vs =>
        rw [e] at H
        have H : Good D V (@Option.rec (Array Value) (fun _ => Out) (.stuck 4 a)
          (fun vs' => @Option.rec (List Value) (fun _ => Out) (.stuck 4 a) (fun _ => ih q Γ p κ (k ()) T m i (chPut ch a vs')) (strip vs.toList vs'.toList)) (tabOf (f (tableObj vs)))) := H
        cases e2 : tabOf (f (tableObj vs)) with
        | none => rw [e2] at H; cases H
        | some vs' =>
          rw [e2] at H
          have H : Good D V (@Option.rec (List Value) (fun _ => Out) (.stuck 4 a) (fun _ => ih q Γ p κ (k ()) T m i (chPut ch a vs')) (strip vs.toList vs'.toList)) := H
          cases e3 : strip vs.toList vs'.toList with
          | none => rw [e3] at H; cases H
          | some more =>
            rw [e3] at H
            -- a view whose tables hold just this row
            let X : XV := { D.xv V with tabs := match tabAt V a with | some v => [(a, v)] | none => [] }
            have hX : ∀ b v, chLook X.tabs b = some v → ∃ c, D.h₀.TableAt c b v := by
              intro b v hv
              show ∃ c, D.h₀.TableAt c b v
              have hv : chLook (match tabAt V a with | some v => [(a, v)] | none => []) b = some v := hv
              cases t : tabAt V a with
              | none => rw [t] at hv; cases hv
              | some v' =>
                rw [t] at hv
                have hv : (match Nat.beq a b with | true => some v' | false => chLook [] b) = some v := hv
                cases ab : Nat.beq a b with
                | false => rw [ab] at hv; cases hv
                | true =>
                  rw [ab] at hv
                  cases hv
                  exact Nat.eq_of_beq_eq_true ab ▸ O.tabs a v t
            have DX : Rep X h T m ch := ⟨D'.size, D'.own, D'.keep, D'.ch⟩
            have en : nowTab X ch a = some vs := by
              unfold nowTab
              unfold nowE at e
              cases c : chLook ch a with
              | some v => rw [c] at e; exact e
              | none =>
                rw [c] at e
                have e : tabAt V a = some vs := e
                show chLook (match tabAt V a with | some v => [(a, v)] | none => []) a = some vs
                rw [e]
                show (match Nat.beq a a with | true => some vs | false => chLook [] a) = some vs
                rw [Nat.beq_refl]
            obtain ⟨ho, DX'⟩ := DX.table (O := ⟨O.size, O.kt, hX⟩) en (tabOf_eq e2) e3
            have D2 : Rep (D.xv V) (h.update a f) T m (chPut ch a vs') := ⟨DX'.size, DX'.own, DX'.keep, DX'.ch⟩
            have z := IH _ _ _ _ _ _ _ _ _ H _ D2
            refine ⟨?_, z⟩
            show (h.get? a).isSome = true
            rw [ho]; rfl
  | point _ k => exact IH _ _ _ _ _ _ _ _ _ H h D'
  | register _ _ => cases H
  | fresh k => exact IH _ _ _ _ _ _ _ _ _ H h D'
  | ask k =>
    cases q with
    | zero => exact H h D'
    | succ q' =>
      have z : Wk D Γ p κ (k V.set) (sh D V h i) := IH q' Γ p κ (k V.set) T m i ch H h D'
      rw [O.set] at z
      exact z
  | choose _ _ _ => cases H
  | os _ _ _ => cases H
  | call c hd g l k =>
    cases q with
    | zero => exact H h D'
    | succ q' => exact wk_call (IH q' _ p _ (den c) T m i ch H h D')
  | handled own k =>
    have z := IH _ _ _ _ _ _ _ _ _ H h D'
    cases own <;> exact z
  | genState _ _ => cases H
  | newGen _ _ => cases H
  | resume _ _ _ _ => cases H
  | yield _ _ _ _ => cases H
  | stack k => exact IH _ _ _ _ _ _ _ _ _ H h D'
  | fork _ _ => cases H
  | thread k => exact IH _ _ _ _ _ _ _ _ _ H h D'
  | await _ _ _ _ _ => cases H
theorem ev_sound (O : Ok D V) : ∀ n q Γ p κ t T m i ch, Good D V (ev V n q Γ p κ t T m i ch) → ∀ h, Rep (D.xv V) h T m ch → Wk D Γ p κ t (sh D V h i)
  | 0 => fun _ _ _ _ _ _ _ _ _ H => H
  | n + 1 => step_sound O (ev_sound O n)
end
end Mine

-- Drive
set_option maxRecDepth 100000
open PySem PySem.W PySem.W.X
namespace Mine

/-- go on from a pause as the code says -/
noncomputable def go (V : St) (n q : Nat) (o : Out) : Out :=
  @Out.rec (fun _ => Out) (fun r T m i ch => .done r T m i ch)
    (fun Γ p κ t T m i ch => ev V n q Γ p κ t T m i ch)
    (fun Γ p κ k T m i ch => ev V n q Γ p κ (k V.set) T m i ch)
    (fun Γ p κ c hd _ _ k T m i ch => ev V n q (Γ.enter c hd p) p (⟨Γ, p, k⟩ :: κ) (den c) T m i ch)
    (fun Γ p κ c T m i ch => @Bool.rec (fun _ => Out) (.stuck 5 0) (ev V n q (Γ.goto c) p κ (den c) T m i ch) c.quiet)
    (fun a b => .stuck a b) o
/-- at an ask: go on with the setting S -/
noncomputable def askTree (o : Out) (S : Setting) : Sem PySem.Fin :=
  @Out.rec (fun _ => Sem PySem.Fin) (fun _ _ _ _ _ => .raise .none) (fun _ _ _ _ _ _ _ _ => .raise .none) (fun _ _ _ k _ _ _ _ => k S)
    (fun _ _ _ _ _ _ _ _ _ _ _ _ => .raise .none) (fun _ _ _ _ _ _ _ _ => .raise .none) (fun _ _ => .raise .none) o
noncomputable def goS (V : St) (S : Setting) (n q : Nat) (o : Out) : Out :=
  @Out.rec (fun _ => Out) (fun _ _ _ _ _ => .stuck 50 0) (fun _ _ _ _ _ _ _ _ => .stuck 50 1)
    (fun Γ p κ k T m i ch => ev V n q Γ p κ (k S) T m i ch)
    (fun _ _ _ _ _ _ _ _ _ _ _ _ => .stuck 50 2) (fun _ _ _ _ _ _ _ _ => .stuck 50 3) (fun a b => .stuck a b) o
/-- at a call: run the callee alone -/
noncomputable def sub (V : St) (n : Nat) (o : Out) : Out :=
  @Out.rec (fun _ => Out) (fun _ _ _ _ _ => .stuck 51 0) (fun _ _ _ _ _ _ _ _ => .stuck 51 1) (fun _ _ _ _ _ _ _ _ => .stuck 51 2)
    (fun Γ p _ c hd _ _ _ T m i ch => ev V n n (Γ.enter c hd p) p [] (den c) T m i ch)
    (fun _ _ _ _ _ _ _ _ => .stuck 51 3) (fun a b => .stuck a b) o
structure Res where
  ok : Bool
  r : Result
  T : BT
  m : Nat
  i : Nat
  ch : Ch
def Res.bad : Res := ⟨false, .ok .next, .nil, 0, 0, []⟩
noncomputable def isDone (u : Out) : Bool := @Out.rec (fun _ => Bool) (fun _ _ _ _ _ => true) (fun _ _ _ _ _ _ _ _ => false) (fun _ _ _ _ _ _ _ _ => false)
    (fun _ _ _ _ _ _ _ _ _ _ _ _ => false) (fun _ _ _ _ _ _ _ _ => false) (fun _ _ => false) u
/-- .. and go on behind it -/
noncomputable def back (V : St) (n q : Nat) (o u : Out) : Out :=
  @Out.rec (fun _ => Out) (fun _ _ _ _ _ => .stuck 52 0) (fun _ _ _ _ _ _ _ _ => .stuck 52 1) (fun _ _ _ _ _ _ _ _ => .stuck 52 2)
    (fun Γ p κ _ _ _ _ k _ _ _ _ => @Out.rec (fun _ => Out) (fun r T m i ch => ev V n q Γ p κ (k r) T m i ch) (fun _ _ _ _ _ _ _ _ => .stuck 53 1) (fun _ _ _ _ _ _ _ _ => .stuck 53 2)
      (fun _ _ _ _ _ _ _ _ _ _ _ _ => .stuck 53 3) (fun _ _ _ _ _ _ _ _ => .stuck 53 4) (fun a b => .stuck a b) u)
    (fun _ _ _ _ _ _ _ _ => .stuck 52 3) (fun a b => .stuck a b) o

def row1 : String := "special-get-raises"
def row2 : String := "comprehension-iter-twice"
/-- the setting with the two rows set -/
def withRows (S : Setting) (b c : Bool) : Setting := { S with params := { S.params with followText := fun r => match decide (r = row1) with
  | true => b
  | false => match decide (r = row2) with
    | true => c
    | false => S.params.followText r } }
theorem withRows_self (S : Setting) : withRows S (S.params.followText row1) (S.params.followText row2) = S := by
  have e : (fun r => match decide (r = row1) with
    | true => S.params.followText row1
    | false => match decide (r = row2) with
      | true => S.params.followText row2
      | false => S.params.followText r) = S.params.followText := by
    funext r
    by_cases h1 : r = row1
    · subst h1; simp
    · by_cases h2 : r = row2
      · subst h2; simp [h1]
      · simp [h1, h2]
  unfold withRows
  rw [e]
theorem by_rows (S : Setting) : ∃ b c, S = withRows S b c := ⟨_, _, (withRows_self S).symm⟩

section
variable {D : Wd} {V : St}
theorem good_go (O : Ok D V) {n q : Nat} {o : Out} (H : Good D V (go V n q o)) : Good D V o := by
  cases o with
  | done => exact H
  | fuel => exact ev_sound O _ _ _ _ _ _ _ _ _ _ H
  | ask Γ p κ k T m i ch =>
    intro h D'
    have z : Wk D Γ p κ (k V.set) (sh D V h i) := ev_sound O _ _ _ _ _ _ _ _ _ _ H h D'
    rw [O.set] at z
    exact z
  | call Γ p κ c hd g l k T m i ch => exact fun h D' => wk_call (ev_sound O _ _ _ _ _ _ _ _ _ _ H h D')
  | code Γ p κ c T m i ch =>
    have H : Good D V (@Bool.rec (fun _ => Out) (.stuck 5 0) (ev V n q (Γ.goto c) p κ (den c) T m i ch) c.quiet) := H
    cases hq : c.quiet with
    | false => rw [hq] at H; cases H
    | true => rw [hq] at H; exact fun h D' => wk_code O hq (ev_sound O _ _ _ _ _ _ _ _ _ _ H h D')
  | stuck => cases H
/-- an ask whose two rows do not matter -/
theorem good_ask (O : Ok D V) {n q : Nat} {o : Out} (e : ∀ b c, askTree o (withRows V.set b c) = askTree o (withRows V.set false false)) (H : Good D V (goS V (withRows V.set false false) n q o)) : Good D V o := by
  cases o with
  | ask Γ p κ k T m i ch =>
    intro h D'
    have z : Wk D Γ p κ (k (withRows V.set false false)) (sh D V h i) := ev_sound O _ _ _ _ _ _ _ _ _ _ H h D'
    obtain ⟨b, c, hb⟩ := by_rows V.set
    have e : k (withRows V.set b c) = k (withRows V.set false false) := e b c
    rw [← e, ← hb, O.set] at z
    exact z
  | _ => cases H
theorem forced_id (t : Sem PySem.Fin) : @Sem.rec PySem.Fin (fun _ => Sem PySem.Fin) (fun a => .pure a) (fun e => .raise e) (fun w => .unsupported w) (fun e => .finish e) (fun t k _ => .rule t k) (fun p k _ => .at p k) (fun a p k _ => .load a p k)
      (fun a p f k _ => .update a p f k) (fun o k _ => .alloc o k) (fun a k _ => .loadIfAlive a k) (fun l k _ => .point l k) (fun a k _ => .register a k) (fun k _ => .fresh k) (fun k _ => .ask k) (fun s n k _ => .choose s n k)
      (fun q l k _ => .os q l k) (fun c h g l k _ => .call c h g l k) (fun o k _ => .handled o k) (fun c k _ => .newGen c k) (fun g k _ => .genState g k) (fun g r l k _ => .resume g r l k) (fun v g l k _ => .yield v g l k)
      (fun k _ => .stack k) (fun c k _ => .fork c k) (fun k _ => .thread k) (fun a t d l k _ => .await a t d l k) t = t := by
  cases t <;> rfl
theorem good_ask1 (O : Ok D V) {n q : Nat} {o : Out}
    (e : ∀ c, @Sem.rec PySem.Fin (fun _ => Sem PySem.Fin) (fun a => .pure a) (fun e => .raise e) (fun w => .unsupported w) (fun e => .finish e) (fun t k _ => .rule t k) (fun p k _ => .at p k) (fun a p k _ => .load a p k)
      (fun a p f k _ => .update a p f k) (fun o k _ => .alloc o k) (fun a k _ => .loadIfAlive a k) (fun l k _ => .point l k) (fun a k _ => .register a k) (fun k _ => .fresh k) (fun k _ => .ask k) (fun s n k _ => .choose s n k)
      (fun q l k _ => .os q l k) (fun c h g l k _ => .call c h g l k) (fun o k _ => .handled o k) (fun c k _ => .newGen c k) (fun g k _ => .genState g k) (fun g r l k _ => .resume g r l k) (fun v g l k _ => .yield v g l k)
      (fun k _ => .stack k) (fun c k _ => .fork c k) (fun k _ => .thread k) (fun a t d l k _ => .await a t d l k) (askTree o (withRows V.set true c)) =
      @Sem.rec PySem.Fin (fun _ => Sem PySem.Fin) (fun a => .pure a) (fun e => .raise e) (fun w => .unsupported w) (fun e => .finish e) (fun t k _ => .rule t k) (fun p k _ => .at p k) (fun a p k _ => .load a p k)
      (fun a p f k _ => .update a p f k) (fun o k _ => .alloc o k) (fun a k _ => .loadIfAlive a k) (fun l k _ => .point l k) (fun a k _ => .register a k) (fun k _ => .fresh k) (fun k _ => .ask k) (fun s n k _ => .choose s n k)
      (fun q l k _ => .os q l k) (fun c h g l k _ => .call c h g l k) (fun o k _ => .handled o k) (fun c k _ => .newGen c k) (fun g k _ => .genState g k) (fun g r l k _ => .resume g r l k) (fun v g l k _ => .yield v g l k)
      (fun k _ => .stack k) (fun c k _ => .fork c k) (fun k _ => .thread k) (fun a t d l k _ => .await a t d l k) (askTree o (withRows V.set false false)))
    (e2 : ∀ c, @Sem.rec PySem.Fin (fun _ => Sem PySem.Fin) (fun a => .pure a) (fun e => .raise e) (fun w => .unsupported w) (fun e => .finish e) (fun t k _ => .rule t k) (fun p k _ => .at p k) (fun a p k _ => .load a p k)
      (fun a p f k _ => .update a p f k) (fun o k _ => .alloc o k) (fun a k _ => .loadIfAlive a k) (fun l k _ => .point l k) (fun a k _ => .register a k) (fun k _ => .fresh k) (fun k _ => .ask k) (fun s n k _ => .choose s n k)
      (fun q l k _ => .os q l k) (fun c h g l k _ => .call c h g l k) (fun o k _ => .handled o k) (fun c k _ => .newGen c k) (fun g k _ => .genState g k) (fun g r l k _ => .resume g r l k) (fun v g l k _ => .yield v g l k)
      (fun k _ => .stack k) (fun c k _ => .fork c k) (fun k _ => .thread k) (fun a t d l k _ => .await a t d l k) (askTree o (withRows V.set false c)) =
      @Sem.rec PySem.Fin (fun _ => Sem PySem.Fin) (fun a => .pure a) (fun e => .raise e) (fun w => .unsupported w) (fun e => .finish e) (fun t k _ => .rule t k) (fun p k _ => .at p k) (fun a p k _ => .load a p k)
      (fun a p f k _ => .update a p f k) (fun o k _ => .alloc o k) (fun a k _ => .loadIfAlive a k) (fun l k _ => .point l k) (fun a k _ => .register a k) (fun k _ => .fresh k) (fun k _ => .ask k) (fun s n k _ => .choose s n k)
      (fun q l k _ => .os q l k) (fun c h g l k _ => .call c h g l k) (fun o k _ => .handled o k) (fun c k _ => .newGen c k) (fun g k _ => .genState g k) (fun g r l k _ => .resume g r l k) (fun v g l k _ => .yield v g l k)
      (fun k _ => .stack k) (fun c k _ => .fork c k) (fun k _ => .thread k) (fun a t d l k _ => .await a t d l k) (askTree o (withRows V.set false false)))
    (H : Good D V (goS V (withRows V.set false false) n q o)) : Good D V o :=
  good_ask O (fun b c => by
    cases b with
    | true => have z := e c; rw [forced_id, forced_id] at z; exact z
    | false => have z := e2 c; rw [forced_id, forced_id] at z; exact z) H

def withRow1 (S : Setting) (b : Bool) : Setting := { S with params := { S.params with followText := fun r => match decide (r = row1) with
  | true => b
  | false => S.params.followText r } }
theorem withRow1_self (S : Setting) : withRow1 S (S.params.followText row1) = S := by
  have e : (fun r => match decide (r = row1) with
    | true => S.params.followText row1
    | false => S.params.followText r) = S.params.followText := by
    funext r
    by_cases h1 : r = row1
    · subst h1; simp
    · simp [h1]
  unfold withRow1
  rw [e]
/-- an ask of the first row alone: its two trees meet at once -/
theorem good_askR (O : Ok D V) {n q : Nat} {o : Out}
    (e : @Sem.rec PySem.Fin (fun _ => Sem PySem.Fin) (fun a => .pure a) (fun e => .raise e) (fun w => .unsupported w) (fun e => .finish e) (fun t k _ => .rule t k) (fun p k _ => .at p k) (fun a p k _ => .load a p k)
      (fun a p f k _ => .update a p f k) (fun o k _ => .alloc o k) (fun a k _ => .loadIfAlive a k) (fun l k _ => .point l k) (fun a k _ => .register a k) (fun k _ => .fresh k) (fun k _ => .ask k) (fun s n k _ => .choose s n k)
      (fun q l k _ => .os q l k) (fun c h g l k _ => .call c h g l k) (fun o k _ => .handled o k) (fun c k _ => .newGen c k) (fun g k _ => .genState g k) (fun g r l k _ => .resume g r l k) (fun v g l k _ => .yield v g l k)
      (fun k _ => .stack k) (fun c k _ => .fork c k) (fun k _ => .thread k) (fun a t d l k _ => .await a t d l k) (askTree o (withRow1 V.set true)) =
      @Sem.rec PySem.Fin (fun _ => Sem PySem.Fin) (fun a => .pure a) (fun e => .raise e) (fun w => .unsupported w) (fun e => .finish e) (fun t k _ => .rule t k) (fun p k _ => .at p k) (fun a p k _ => .load a p k)
      (fun a p f k _ => .update a p f k) (fun o k _ => .alloc o k) (fun a k _ => .loadIfAlive a k) (fun l k _ => .point l k) (fun a k _ => .register a k) (fun k _ => .fresh k) (fun k _ => .ask k) (fun s n k _ => .choose s n k)
      (fun q l k _ => .os q l k) (fun c h g l k _ => .call c h g l k) (fun o k _ => .handled o k) (fun c k _ => .newGen c k) (fun g k _ => .genState g k) (fun g r l k _ => .resume g r l k) (fun v g l k _ => .yield v g l k)
      (fun k _ => .stack k) (fun c k _ => .fork c k) (fun k _ => .thread k) (fun a t d l k _ => .await a t d l k) (askTree o (withRow1 V.set false)))
    (H : Good D V (goS V (withRow1 V.set false) n q o)) : Good D V o := by
  rw [forced_id, forced_id] at e
  cases o with
  | ask Γ p κ k T m i ch =>
    intro h D'
    have z : Wk D Γ p κ (k (withRow1 V.set false)) (sh D V h i) := ev_sound O _ _ _ _ _ _ _ _ _ _ H h D'
    have e : k (withRow1 V.set true) = k (withRow1 V.set false) := e
    have e2 : k (withRow1 V.set (V.set.params.followText row1)) = k (withRow1 V.set false) := by
      cases V.set.params.followText row1 with
      | true => exact e
      | false => rfl
    rw [← e2, withRow1_self, O.set] at z
    exact z
  | _ => cases H

abbrev St.rows (V : St) (b c : Bool) : St := { V with set := withRows V.set b c }
/-- a call whose outcome is the same whatever the rows -/
theorem good_call (O : Ok D V) {n n' q : Nat} {o : Out} (e : ∀ b c,
      @Out.rec (fun _ => Res) (fun r T m i ch => ⟨true, r, T, m, i, ch⟩) (fun _ _ _ _ _ _ _ _ => .bad) (fun _ _ _ _ _ _ _ _ => .bad) (fun _ _ _ _ _ _ _ _ _ _ _ _ => .bad) (fun _ _ _ _ _ _ _ _ => .bad) (fun _ _ => .bad) (sub (V.rows b c) n o) =
      @Out.rec (fun _ => Res) (fun r T m i ch => ⟨true, r, T, m, i, ch⟩) (fun _ _ _ _ _ _ _ _ => .bad) (fun _ _ _ _ _ _ _ _ => .bad) (fun _ _ _ _ _ _ _ _ _ _ _ _ => .bad) (fun _ _ _ _ _ _ _ _ => .bad) (fun _ _ => .bad) (sub (V.rows false false) n o)) (H : Good D V (back V n' q o (sub (V.rows false false) n o))) : Good D V o := by
  cases o with
  | call Γ p κ cd hd g l k T m i ch =>
    intro h D'
    obtain ⟨b, c, hb⟩ := by_rows V.set
    let DK : Wd := { D with R := postK D (⟨Γ, p, k⟩ :: κ) }
    have O' : Ok DK (V.rows b c) := ⟨by show withRows V.set b c = _; rw [← hb]; exact O.set, O.size, O.kt, O.tabs⟩
    refine wk_call ?_
    have key : Good DK (V.rows b c) (sub (V.rows b c) n (.call Γ p κ cd hd g l k T m i ch)) := by
      have e := e b c
      revert H e
      generalize sub (V.rows false false) n (.call Γ p κ cd hd g l k T m i ch) = u
      generalize sub (V.rows b c) n (.call Γ p κ cd hd g l k T m i ch) = v
      intro H e
      cases u with
      | done r T' m' i' ch' =>
        cases v with
        | done r2 T2 m2 i2 ch2 =>
          have e : (⟨true, r2, T2, m2, i2, ch2⟩ : Res) = ⟨true, r, T', m', i', ch'⟩ := e
          cases e
          exact fun h' D'' => ev_sound O n' q Γ p κ (k r) T' m' i' ch' H h' ⟨D''.size, D''.own, D''.keep, D''.ch⟩
        | _ =>
          have e : Res.bad = ⟨true, r, T', m', i', ch'⟩ := e
          cases e
      | _ => cases H
    exact ev_sound O' n n (Γ.enter cd hd p) p [] (den cd) T m i ch key h ⟨D'.size, D'.own, D'.keep, D'.ch⟩
  | _ => cases H
def row3 : String := "fstring-hands-on-the-str"
def withRow3 (S : Setting) (b : Bool) : Setting := { S with params := { S.params with followText := fun r => match decide (r = row3) with
  | true => b
  | false => S.params.followText r } }
theorem withRow3_self (S : Setting) : withRow3 S (S.params.followText row3) = S := by
  have e : (fun r => match decide (r = row3) with
    | true => S.params.followText row3
    | false => S.params.followText r) = S.params.followText := by
    funext r
    by_cases h1 : r = row3
    · subst h1; simp
    · simp [h1]
  unfold withRow3
  rw [e]
abbrev St.row3 (V : St) (b : Bool) : St := { V with set := withRow3 V.set b }
/-- from here on one way for each value of the third row -/
theorem good_row3 (O : Ok D V) {o : Out} (H : ∀ b, Ok D (V.row3 b) → Good D (V.row3 b) o) : Good D V o := by
  have e := withRow3_self V.set
  have O' : Ok D (V.row3 (V.set.params.followText row3)) := ⟨by show withRow3 V.set _ = _; rw [e]; exact O.set, O.size, O.kt, O.tabs⟩
  have z := H _ O'
  revert z
  generalize V.set.params.followText row3 = b
  intro z
  cases o <;> exact z
/-- the end -/
def trueR (r : Result) : Bool := match r with
  | .ok (.ret (.bool true)) => true
  | _ => false
theorem trueR_eq {r : Result} (h : trueR r = true) : r = .ok (.ret (.bool true)) := by
  unfold trueR at h
  split at h
  · rfl
  · cases h
noncomputable def endsTrue (o : Out) : Bool := @Out.rec (fun _ => Bool) (fun r _ _ _ _ => trueR r) (fun _ _ _ _ _ _ _ _ => false) (fun _ _ _ _ _ _ _ _ => false)
    (fun _ _ _ _ _ _ _ _ _ _ _ _ => false) (fun _ _ _ _ _ _ _ _ => false) (fun _ _ => false) o
theorem good_true {o : Out} (e : endsTrue o = true) (hR : ∀ T m i ch h, Rep (D.xv V) h T m ch → D.R (.ok (.ret (.bool true))) (sh D V h i)) : Good D V o := by
  cases o with
  | done r T m i ch =>
    rw [trueR_eq (show trueR r = true from e)]
    exact hR T m i ch
  | _ => cases e
end
end Mine

-- Specs
set_option maxRecDepth 100000
open PySem PySem.W PySem.W.X
namespace Mine

noncomputable def codeOf (o : Out) : Code :=
  @Out.rec (fun _ => Code) (fun _ _ _ _ _ => .builtin "" {}) (fun _ _ _ _ _ _ _ _ => .builtin "" {}) (fun _ _ _ _ _ _ _ _ => .builtin "" {})
    (fun _ _ _ _ _ _ _ _ _ _ _ _ => .builtin "" {}) (fun _ _ _ c _ _ _ _ => c) (fun _ _ => .builtin "" {}) o
noncomputable def lookO (V : St) (o : Out) (a : Addr) : Option Obj :=
  @Out.rec (fun _ => Option Obj) (fun _ _ _ _ _ => none) (fun _ _ _ _ _ _ _ _ => none) (fun _ _ _ _ _ _ _ _ => none)
    (fun _ _ _ _ _ _ _ _ _ _ _ _ => none) (fun _ _ _ _ T _ _ ch => lookE V T ch a) (fun _ _ => none) o
noncomputable def roomO (o : Out) : Bool :=
  @Out.rec (fun _ => Bool) (fun _ _ _ _ _ => false) (fun _ _ _ _ _ _ _ _ => false) (fun _ _ _ _ _ _ _ _ => false)
    (fun _ _ _ _ _ _ _ _ _ _ _ _ => false) (fun Γ _ _ _ _ _ _ _ => Nat.blt (unitsOf Γ.below + 80) cLine) (fun _ _ => false) o
/-- go on behind a builtin's code with its result; k new tokens -/
noncomputable def after (V : St) (n q : Nat) (o : Out) (r : Result) (tk : Nat) : Out :=
  @Out.rec (fun _ => Out) (fun _ _ _ _ _ => .stuck 54 0) (fun _ _ _ _ _ _ _ _ => .stuck 54 1) (fun _ _ _ _ _ _ _ _ => .stuck 54 2)
    (fun _ _ _ _ _ _ _ _ _ _ _ _ => .stuck 54 3) (fun _ _ κ _ T m i ch => retE (ev V n) q κ r T m (Nat.add i tk) ch) (fun a b => .stuck a b) o
noncomputable def tokO (V : St) (o : Out) : Nat :=
  @Out.rec (fun _ => Nat) (fun _ _ _ _ _ => 0) (fun _ _ _ _ _ _ _ _ => 0) (fun _ _ _ _ _ _ _ _ => 0)
    (fun _ _ _ _ _ _ _ _ _ _ _ _ => 0) (fun _ _ _ _ _ _ i _ => V.t₀ + i) (fun _ _ => 0) o

section
variable {D : Wd} {V : St}
def aroundΓ (Γ : Ctx) : Around := ⟨Γ.handled, frameCount Γ.below, some (envsOf Γ.below), some (guardsOf Γ.below), unitsOf Γ.below⟩
theorem below_here (Γ : Ctx) : Γ.Below (aroundΓ Γ) := ⟨rfl, Nat.le_refl _, fun _ h => by cases h; rfl, fun _ h => by cases h; rfl, Nat.le_refl _⟩
theorem ret_good (O : Ok D V) {n q : Nat} {κ : List KFr} {r : Result} {T : BT} {m i : Nat} {ch : Ch} (H : Good D V (retE (ev V n) q κ r T m i ch)) {h : Heap} (D' : Rep (D.xv V) h T m ch) : postK D κ r (sh D V h i) :=
  ret_sound (ih := ev V n) (fun q Γ p κ t T m i ch => ev_sound O n q Γ p κ t T m i ch) H D'
/-- a builtin's code by what the library says of it -/
theorem good_meets (O : Ok D V) {o : Out} {n q tk : Nat} {r : Result} {id : String} {args : Args} {B : Builtin} {S : Spec} (hc : codeOf o = .builtin id args)
    (plain : plainId id = true) (entry : entryFor table id = some B) (hm : Meets (B args) S)
    (hS : ∀ (A : Around) (R : Result → Shared → Prop) (s : Shared), (∀ a x, lookO V o a = some x → s.heap.get? a = some x) → (roomO o = true → A.units + 80 < cLine) → s.toks = tokO V o →
      R r { s with toks := s.toks + tk } → S A R s)
    (H : Good D V (after V n q o r tk)) : Good D V o := by
  cases o with
  | code Γ p κ c T m i ch =>
    have hc : c = .builtin id args := hc
    subst hc
    intro h D'
    refine ⟨plainId_quiet plain args, ?_⟩
    refine codeAny_builtin (A := aroundΓ Γ) entry ?_ (Γ.goto _) p rfl (below_here Γ)
    rw [Around.under_plainId plain args]
    refine hm D.prog D.w (aroundΓ Γ) (postK D κ) (sh D V h i) (hS _ _ _ (fun a x e => ?_) (fun e => ?_) rfl ?_)
    · have e : lookE V T ch a = some x := e
      rw [lookE_eq V D] at e
      exact D'.look O.xv e
    · exact blt_true (show Nat.blt (unitsOf Γ.below + 80) cLine = true from e)
    · have z := ret_good O (show Good D V (retE (ev V n) q κ r T m (Nat.add i tk) ch) from H) D'
      have e : sh D V h (Nat.add i tk) = { sh D V h i with toks := (sh D V h i).toks + tk } := by
        show sh D V h (i + tk) = _
        unfold sh
        rw [← Nat.add_assoc]
      rw [← e]
      exact z
  | _ => cases H

/-! `x in xs` of a list of strs, at a hit -/
def strIs (k : Str) : Value → Bool
  | .str x _ => x == k
  | _ => false
def isStrV : Value → Bool
  | .str .. => true
  | _ => false
def listHas (k : Str) : Option Obj → Bool
  | some ⟨c, d, .seq xs _, sl⟩ => c == .type "list" && d.isNone && sl.toList.isEmpty && xs.toList.all isStrV && xs.toList.any (strIs k)
  | _ => false
theorem strIs_gives {k : Str} {t : Tok} {y : Value} (h : isStrV y = true) : MeetsSeq.EqGives y (.str k t) (strIs k y) := by
  unfold isStrV at h
  split at h
  · exact PyProof.Rows.eqGives_str _ _ _ _
  · cases h
theorem good_contains (O : Ok D V) {o : Out} {n q : Nat} (l : Addr) (k : Str) (t : Tok) (hc : codeOf o = .builtin "list.__contains__" ⟨[.ref l, .str k t], []⟩) (hl : listHas k (lookO V o l) = true)
    (H : Good D V (after V n q o (.ok (.ret (.bool true))) 0)) : Good D V o := by
  unfold listHas at hl
  split at hl
  · rename_i c d xs nn sl e
    simp only [Bool.and_eq_true, beq_iff_eq, Option.isNone_iff_eq_none, List.isEmpty_iff, Array.toList_eq_nil_iff] at hl
    obtain ⟨⟨⟨⟨hcls, hd⟩, hsl⟩, hall⟩, hany⟩ := hl
    subst hcls hd hsl
    refine good_meets O hc (by decide +kernel) (entryFor_of_tree (by kernel_rfl)) (MeetsSeq.list_contains l xs nn (.str k t) (strIs k) (fun y hy => strIs_gives (List.all_eq_true.mp hall y (by simpa using hy)))) (fun A R s hh _ _ hR => ⟨hh _ _ e, ?_⟩) H
    have : xs.any (strIs k) = true := by rw [← Array.any_toList]; exact hany
    rw [this]
    exact hR
  · cases hl

/-! `==` of two tuples that say the same -/
def readAllBy (f : Value → Option PyData) : List Value → Option (List PyData)
  | [] => some []
  | v :: vs => match f v with
    | some d => match readAllBy f vs with
      | some ds => some (d :: ds)
      | none => none
    | none => none
def readV (look : Addr → Option Obj) : Nat → Value → Option PyData
  | _, .none => some .none
  | _, .bool b => some (.bool b)
  | _, .int i _ => some (.int i)
  | _, .str x _ => some (.str x)
  | n + 1, .ref a => match look a with
    | some ⟨.type "tuple", _, .seq xs _, _⟩ => match readAllBy (readV look n) xs.toList with
      | some ds => some (.tuple ds)
      | none => none
    | _ => none
  | _, _ => none
theorem readAllBy_reads {h : Heap} {f : Value → Option PyData} (hf : ∀ v d, f v = some d → ∃ as, Reads h v d as) : ∀ vs ds, readAllBy f vs = some ds → ∃ as, ReadsAll h vs ds as
  | [], ds, e => by cases e; exact ⟨_, .nil⟩
  | v :: vs, ds, e => by
    unfold readAllBy at e
    split at e
    · rename_i d e1
      split at e
      · rename_i ds' e2
        cases e
        obtain ⟨as, r⟩ := hf v d e1
        obtain ⟨bs, r2⟩ := readAllBy_reads hf vs ds' e2
        exact ⟨_, .cons r r2⟩
      · cases e
    · cases e
theorem readV_reads {h : Heap} {look : Addr → Option Obj} (hl : ∀ a o, look a = some o → h.get? a = some o) : ∀ n v d, readV look n v = some d → ∃ as, Reads h v d as := by
  intro n
  induction n with
  | zero =>
    intro v d e
    cases v <;> first | (simp only [readV] at e; cases e; exact ⟨_, by constructor⟩) | (simp only [readV] at e; cases e)
  | succ n ih =>
    intro v d e
    unfold readV at e
    split at e
    · cases e; exact ⟨_, by constructor⟩
    · cases e; exact ⟨_, by constructor⟩
    · cases e; exact ⟨_, by constructor⟩
    · cases e; exact ⟨_, by constructor⟩
    · split at e
      · rename_i e1
        split at e
        · rename_i ds e2
          cases e
          cases ‹_ + 1 = _ + 1›
          obtain ⟨as, r⟩ := readAllBy_reads (h := h) ih _ _ e2
          exact ⟨_, .tuple (hl _ _ e1) rfl rfl r⟩
        · cases e
      · cases e
    · cases e
theorem readsAll_length {h : Heap} : ∀ {vs ds as}, ReadsAll h vs ds as → vs.length = ds.length
  | _, _, _, .nil => rfl
  | _, _, _, .cons _ r => by simp [readsAll_length r]
def tupSame (look : Addr → Option Obj) (a b : Addr) : Bool := match look a, look b with
  | some ⟨.type "tuple", _, .seq xs _, _⟩, some ⟨.type "tuple", _, .seq ys _, _⟩ => match readAllBy (readV look 3) xs.toList, readAllBy (readV look 3) ys.toList with
    | some ds, some es => PyData.canLayAll0 ds && PyData.canLayAll0 es && Nat.ble (PyData.depthAll ds) 50 && PyData.eqvAll ds es
    | _, _ => false
  | _, _ => false
theorem good_same (O : Ok D V) {o : Out} {n q : Nat} (a b : Addr) (hc : codeOf o = .builtin "tuple.__eq__" ⟨[.ref a, .ref b], []⟩) (hl : tupSame (lookO V o) a b = true) (hr : roomO o = true)
    (H : Good D V (after V n q o (.ok (.ret (.bool true))) 0)) : Good D V o := by
  unfold tupSame at hl
  split at hl
  · rename_i dd xs nn sl dd2 ys nn2 sl2 e1 e2
    split at hl
    · rename_i ds es r1 r2
      simp only [Bool.and_eq_true] at hl
      obtain ⟨⟨⟨c1, c2⟩, c3⟩, c4⟩ := hl
      have c3 := Nat.le_of_ble_eq_true c3
      refine good_meets O hc (by decide +kernel) (entryFor_of_tree (by kernel_rfl)) (SeqAt.tuple_eqAt a b xs ys nn nn2 dd dd2 sl sl2 (SeqAt.pairEq ds es)) (fun A R s hh hroom _ hR => ⟨hh _ _ e1, hh _ _ e2, ?_, ?_⟩) H
      · intro j h1 h2
        obtain ⟨as, ra⟩ := readAllBy_reads (h := s.heap) (readV_reads hh 3) _ _ r1
        obtain ⟨bs, rb⟩ := readAllBy_reads (h := s.heap) (readV_reads hh 3) _ _ r2
        have hu := hroom hr
        have := SeqAt.eqAt_readsAll ds es A.in1 s xs.toList ys.toList _ _ ra rb c1 c2 (by
          show A.units + 1 + min (PyData.depthAll ds) (PyData.depthAll es) < cLine
          have : min (PyData.depthAll ds) (PyData.depthAll es) ≤ 50 := Nat.le_trans (Nat.min_le_left _ _) c3
          omega) j (by simpa using h1) (by simpa using h2)
        simpa using this
      · obtain ⟨as, ra⟩ := readAllBy_reads (h := s.heap) (readV_reads hh 3) _ _ r1
        obtain ⟨bs, rb⟩ := readAllBy_reads (h := s.heap) (readV_reads hh 3) _ _ r2
        have n1 : xs.size = ds.length := by simpa using readsAll_length ra
        have n2 : ys.size = es.length := by simpa using readsAll_length rb
        rw [n1, n2, SeqAt.eqvAll_eq, c4]
        exact hR
    · cases hl
  · cases hl
end
end Mine

-- Shut
set_option maxRecDepth 100000
open PySem PySem.W PySem.W.X
namespace Mine
/-- Good, shut: no elaborator is to look into a run -/
structure Fine (D : Wd) (V : St) (o : Out) : Prop where
  is : Good D V o
section
variable {D : Wd} {V : St}
theorem fine_go (O : Ok D V) {n q : Nat} {o : Out} (H : Fine D V (go V n q o)) : Fine D V o := ⟨good_go O H.is⟩
theorem fine_ask (O : Ok D V) {n q : Nat} {o : Out}
    (e : @Sem.rec PySem.Fin (fun _ => Sem PySem.Fin) (fun a => .pure a) (fun e => .raise e) (fun w => .unsupported w) (fun e => .finish e) (fun t k _ => .rule t k) (fun p k _ => .at p k) (fun a p k _ => .load a p k)
      (fun a p f k _ => .update a p f k) (fun o k _ => .alloc o k) (fun a k _ => .loadIfAlive a k) (fun l k _ => .point l k) (fun a k _ => .register a k) (fun k _ => .fresh k) (fun k _ => .ask k) (fun s n k _ => .choose s n k)
      (fun q l k _ => .os q l k) (fun c h g l k _ => .call c h g l k) (fun o k _ => .handled o k) (fun c k _ => .newGen c k) (fun g k _ => .genState g k) (fun g r l k _ => .resume g r l k) (fun v g l k _ => .yield v g l k)
      (fun k _ => .stack k) (fun c k _ => .fork c k) (fun k _ => .thread k) (fun a t d l k _ => .await a t d l k) (askTree o (withRow1 V.set true)) =
      @Sem.rec PySem.Fin (fun _ => Sem PySem.Fin) (fun a => .pure a) (fun e => .raise e) (fun w => .unsupported w) (fun e => .finish e) (fun t k _ => .rule t k) (fun p k _ => .at p k) (fun a p k _ => .load a p k)
      (fun a p f k _ => .update a p f k) (fun o k _ => .alloc o k) (fun a k _ => .loadIfAlive a k) (fun l k _ => .point l k) (fun a k _ => .register a k) (fun k _ => .fresh k) (fun k _ => .ask k) (fun s n k _ => .choose s n k)
      (fun q l k _ => .os q l k) (fun c h g l k _ => .call c h g l k) (fun o k _ => .handled o k) (fun c k _ => .newGen c k) (fun g k _ => .genState g k) (fun g r l k _ => .resume g r l k) (fun v g l k _ => .yield v g l k)
      (fun k _ => .stack k) (fun c k _ => .fork c k) (fun k _ => .thread k) (fun a t d l k _ => .await a t d l k) (askTree o (withRow1 V.set false)))
    (H : Fine D V (goS V (withRow1 V.set false) n q o)) : Fine D V o := ⟨good_askR O e H.is⟩
theorem fine_call (O : Ok D V) {n n' q : Nat} {o : Out} (e : ∀ b c,
      @Out.rec (fun _ => Res) (fun r T m i ch => ⟨true, r, T, m, i, ch⟩) (fun _ _ _ _ _ _ _ _ => .bad) (fun _ _ _ _ _ _ _ _ => .bad) (fun _ _ _ _ _ _ _ _ _ _ _ _ => .bad) (fun _ _ _ _ _ _ _ _ => .bad) (fun _ _ => .bad) (sub (V.rows b c) n o) =
      @Out.rec (fun _ => Res) (fun r T m i ch => ⟨true, r, T, m, i, ch⟩) (fun _ _ _ _ _ _ _ _ => .bad) (fun _ _ _ _ _ _ _ _ => .bad) (fun _ _ _ _ _ _ _ _ _ _ _ _ => .bad) (fun _ _ _ _ _ _ _ _ => .bad) (fun _ _ => .bad) (sub (V.rows false false) n o)) (H : Fine D V (back V n' q o (sub (V.rows false false) n o))) : Fine D V o := ⟨good_call O e H.is⟩
theorem fine_row3 (O : Ok D V) {o : Out} (H : ∀ b, Ok D (V.row3 b) → Fine D (V.row3 b) o) : Fine D V o := ⟨good_row3 O fun b O' => (H b O').is⟩
theorem fine_contains (O : Ok D V) {o : Out} {n q : Nat} (l : Addr) (k : Str) (t : Tok) (hc : codeOf o = .builtin "list.__contains__" ⟨[.ref l, .str k t], []⟩) (hl : listHas k (lookO V o l) = true)
    (H : Fine D V (after V n q o (.ok (.ret (.bool true))) 0)) : Fine D V o := ⟨good_contains O l k t hc hl H.is⟩
theorem fine_same (O : Ok D V) {o : Out} {n q : Nat} (a b : Addr) (hc : codeOf o = .builtin "tuple.__eq__" ⟨[.ref a, .ref b], []⟩) (hl : tupSame (lookO V o) a b = true) (hr : roomO o = true)
    (H : Fine D V (after V n q o (.ok (.ret (.bool true))) 0)) : Fine D V o := ⟨good_same O a b hc hl hr H.is⟩
theorem fine_true {o : Out} (e : endsTrue o = true) (hR : ∀ T m i ch h, Rep (D.xv V) h T m ch → D.R (.ok (.ret (.bool true))) (sh D V h i)) : Fine D V o := ⟨good_true e hR⟩
end
end Mine

-- Cut
set_option maxRecDepth 100000
open PySem PySem.W PySem.W.X
namespace Mine

theorem execs_append (env : Env) (b : List Stmt) : ∀ a : List Stmt, execs (a ++ b) env = execs a env >>= fun f => match f with | .next => execs b env | f => pure f
  | [] => by
    rw [List.nil_append, execs]
    rfl
  | s :: a => by
    rw [List.cons_append, execs, execs]
    simp only [bind_assoc]
    refine congrArg _ (funext fun f => ?_)
    cases f with
    | next => exact execs_append env b a
    | brk => rfl
    | cont => rfl
    | ret v => rfl

theorem wp_none {α : Type} {M : Model} {Γ : Ctx} : ∀ (t : Sem α) (p : Pos) (s : Shared), Sem.wp M Γ t (fun _ _ _ => False) (fun _ _ _ => False) p s → False := by
  intro t
  induction t with
  | pure | raise | unsupported | finish => intro p s h; exact h
  | rule _ k ih | «at» _ k ih | point _ k ih | ask k ih | fresh k ih | alloc o k ih | os _ _ k ih | handled _ k ih | newGen _ k ih | stack k ih | thread k ih | loadIfAlive _ k ih => intro p s h; exact ih _ _ _ h
  | load a q k ih => intro p s h; obtain ⟨o, _, h⟩ := h; exact ih _ _ _ h
  | update a q f k ih => intro p s h; exact ih _ _ _ h.2
  | register | yield | fork | await => intro p s h; exact h
  | choose _ _ k ih => intro p s h; exact ih _ _ _ h.2
  | call c h g l k ih =>
    intro p s h
    rw [Sem.wp_call] at h
    obtain ⟨r, s', _, h⟩ := h
    exact ih _ _ _ h
  | genState g k ih => intro p s h; obtain ⟨_, _, h⟩ := h; exact ih _ _ _ h
  | resume g r l k ih => intro p s h; obtain ⟨_, _, _, h⟩ := h; exact ih _ _ _ h
section
variable {D : Wd}
/-- a body in two parts: what the first part leaves is where the second starts -/
theorem func_cut {Γ : Ctx} {p : Pos} {κ : List KFr} {a b : List Stmt} {env : Env} {s : Shared}
    (h : Wk { D with R := fun r s' => r = .ok .next ∧ ∀ p', Wk D Γ p' κ (den (.func b env)) s' } Γ p [] (den (.block a env)) s) : Wk D Γ p κ (den (.func (a ++ b) env)) s := by
  rw [← den_eq] at h ⊢
  have h : Sem.wp D.M Γ (do return .done (← (execs a env).onRaise (fun x => do noteFrame x env; theTreesLotGoes x)))
      (Sem.finPost D.M Γ fun r s' => r = .ok .next ∧ ∀ p', Wk D Γ p' κ (denote table (.func b env)) s')
      (fun e _ s' => (Except.error e : Result) = .ok .next ∧ ∀ p', Wk D Γ p' κ (denote table (.func b env)) s') p s := by
    exact h
  rw [Sem.wp_bind', Sem.wp_onRaise] at h
  show Sem.wp D.M Γ (do
    point
    match ← (execs (a ++ b) env).onRaise (leaving env) with
    | .ret v => ret v
    | _ => ret .none) (Sem.finPost D.M Γ (postK D κ)) (fun e _ s' => postK D κ (.error e) s') p s
  rw [Sem.wp_bind']
  show Sem.wp D.M Γ ((execs (a ++ b) env).onRaise (leaving env) >>= fun f => match f with
    | .ret v => ret v
    | _ => ret .none) (Sem.finPost D.M Γ (postK D κ)) (fun e _ s' => postK D κ (.error e) s') p s
  rw [Sem.wp_bind', Sem.wp_onRaise, execs_append, Sem.wp_bind']
  refine Sem.wp_mono _ _ _ (fun f p' s' q => ?_) (fun e p' s' q => ?_) p s h
  · obtain ⟨q1, q2⟩ := (show (Except.ok f : Result) = .ok .next ∧ ∀ p', Wk D Γ p' κ (denote table (.func b env)) s' from q)
    cases q1
    have z := q2 p'
    have z : Sem.wp D.M Γ (do
        point
        match ← (execs b env).onRaise (leaving env) with
        | .ret v => ret v
        | _ => ret .none) (Sem.finPost D.M Γ (postK D κ)) (fun e _ s' => postK D κ (.error e) s') p' s' := z
    rw [Sem.wp_bind'] at z
    have z : Sem.wp D.M Γ ((execs b env).onRaise (leaving env) >>= fun f => match f with
        | .ret v => ret v
        | _ => ret .none) (Sem.finPost D.M Γ (postK D κ)) (fun e _ s' => postK D κ (.error e) s') p' s' := z
    rw [Sem.wp_bind', Sem.wp_onRaise] at z
    exact z
  · exfalso
    refine wp_none _ _ _ (Sem.wp_mono _ _ _ (fun _ _ _ z => ?_) (fun _ _ _ z => ?_) _ _ q)
    · cases z.1
    · cases z.1
end
end Mine

-- Ints
set_option maxRecDepth 100000
open PySem PySem.W PySem.W.X
namespace Mine
section
variable {D : Wd} {V : St}
/-- a builtin that gives a new int -/
theorem fine_int (O : Ok D V) {o : Out} {n q : Nat} {id : String} {args : Args} {B : Builtin} {z : Int} (hc : codeOf o = .builtin id args) (plain : plainId id = true) (entry : entryFor table id = some B)
    (g : Gives (B args) (.int z)) (H : Fine D V (after V n q o (.ok (.ret (.int z (tokO V o)))) 1)) : Fine D V o :=
  ⟨good_meets O hc plain entry g.meets (fun _ _ s _ _ ht hR => by rw [← ht] at hR; exact hR) H.is⟩
/-- a builtin that gives a value that stands -/
theorem fine_val (O : Ok D V) {o : Out} {n q : Nat} {id : String} {args : Args} {B : Builtin} {v : Value} (hc : codeOf o = .builtin id args) (plain : plainId id = true) (entry : entryFor table id = some B)
    (g : Gives (B args) (.val v)) (H : Fine D V (after V n q o (.ok (.ret v)) 0)) : Fine D V o :=
  ⟨good_meets (tk := 0) O hc plain entry g.meets (fun _ _ s _ _ _ hR => hR) H.is⟩
theorem fine_add (O : Ok D V) {o : Out} {n q : Nat} (a b : Int) (t u : Tok) (hc : codeOf o = .builtin "int.__add__" ⟨[.int a t, .int b u], []⟩) (H : Fine D V (after V n q o (.ok (.ret (.int (a + b) (tokO V o)))) 1)) : Fine D V o :=
  fine_int O hc (by decide +kernel) (entryFor_of_tree (by kernel_rfl)) (gives_int_add a b t u) H
theorem fine_mul (O : Ok D V) {o : Out} {n q : Nat} (a b : Int) (t u : Tok) (hm : IntMulOk a b) (hc : codeOf o = .builtin "int.__mul__" ⟨[.int a t, .int b u], []⟩) (H : Fine D V (after V n q o (.ok (.ret (.int (a * b) (tokO V o)))) 1)) : Fine D V o :=
  fine_int O hc (by decide +kernel) (entryFor_of_tree (by kernel_rfl)) (gives_int_mul a b t u hm) H
theorem fine_mod (O : Ok D V) {o : Out} {n q : Nat} (a b : Int) (t u : Tok) (hb : ¬ (b == 0) = true) (hc : codeOf o = .builtin "int.__mod__" ⟨[.int a t, .int b u], []⟩) (H : Fine D V (after V n q o (.ok (.ret (.int (a.fmod b) (tokO V o)))) 1)) : Fine D V o :=
  fine_int O hc (by decide +kernel) (entryFor_of_tree (by kernel_rfl)) (AutoIntG6.int___mod___int_int_1 a t b u hb) H
theorem fine_lt (O : Ok D V) {o : Out} {n q : Nat} (a b : Int) (t u : Tok) (hc : codeOf o = .builtin "int.__lt__" ⟨[.int a t, .int b u], []⟩) (H : Fine D V (after V n q o (.ok (.ret (.bool (decide (a < b))))) 0)) : Fine D V o :=
  fine_val O hc (by decide +kernel) (entryFor_of_tree (by kernel_rfl)) (gives_int_lt a b t u) H
end
end Mine

-- Func
set_option maxRecDepth 100000
open PySem PySem.W PySem.W.X
namespace Mine
noncomputable def ctxO (o : Out) : Ctx :=
  @Out.rec (fun _ => Ctx) (fun _ _ _ _ _ => callerΓ) (fun _ _ _ _ _ _ _ _ => callerΓ) (fun _ _ _ _ _ _ _ _ => callerΓ)
    (fun _ _ _ _ _ _ _ _ _ _ _ _ => callerΓ) (fun Γ _ _ c _ _ _ _ => Γ.goto c) (fun _ _ => callerΓ) o
noncomputable def konO (o : Out) : List KFr :=
  @Out.rec (fun _ => List KFr) (fun _ _ _ _ _ => []) (fun _ _ _ _ _ _ _ _ => []) (fun _ _ _ _ _ _ _ _ => [])
    (fun _ _ _ _ _ _ _ _ _ _ _ _ => []) (fun _ _ κ _ _ _ _ _ => κ) (fun _ _ => []) o
noncomputable def block (V : St) (n q : Nat) (o : Out) (a : List Stmt) (env : Env) : Out :=
  @Out.rec (fun _ => Out) (fun _ _ _ _ _ => .stuck 55 0) (fun _ _ _ _ _ _ _ _ => .stuck 55 1) (fun _ _ _ _ _ _ _ _ => .stuck 55 2)
    (fun _ _ _ _ _ _ _ _ _ _ _ _ => .stuck 55 3) (fun Γ p _ c T m i ch => ev V n q (Γ.goto c) p [] (den (.block a env)) T m i ch) (fun a b => .stuck a b) o
/-- what the first part of a body is to leave -/
def midD (D : Wd) (o : Out) (b : List Stmt) (env : Env) : Wd := { D with R := fun r s => r = .ok .next ∧ ∀ p, Wk D (ctxO o) p (konO o) (den (.func b env)) s }
section
variable {D : Wd} {V : St}
theorem Ok.mid (O : Ok D V) (o : Out) (b : List Stmt) (env : Env) : Ok (midD D o b env) V := ⟨O.set, O.size, O.kt, O.tabs⟩
theorem fine_func (O : Ok D V) {o : Out} {n q : Nat} (a b : List Stmt) (env : Env) (hc : codeOf o = .func (a ++ b) env) (hq : (Code.func (a ++ b) env).quiet = true)
    (H : Fine (midD D o b env) V (block V n q o a env)) : Fine D V o := by
  refine ⟨?_⟩
  have H := H.is
  cases o with
  | code Γ p κ c T m i ch =>
    have hc : c = .func (a ++ b) env := hc
    subst hc
    intro h D'
    refine wk_code O hq ?_
    refine func_cut ?_
    exact ev_sound (D := midD D (.code Γ p κ (.func (a ++ b) env) T m i ch) b env) (O.mid _ b env) n q (Γ.goto _) p [] (den (.block a env)) T m i ch H h ⟨D'.size, D'.own, D'.keep, D'.ch⟩
  | _ => cases H
end
end Mine

-- Alloc
set_option maxRecDepth 100000
open PySem PySem.W PySem.W.X
namespace Mine
/-- go on behind a builtin's code that has laid one object -/
noncomputable def afterNew (V : St) (n q : Nat) (o : Out) (ob : Obj) (tk : Nat) : Out :=
  @Out.rec (fun _ => Out) (fun _ _ _ _ _ => .stuck 56 0) (fun _ _ _ _ _ _ _ _ => .stuck 56 1) (fun _ _ _ _ _ _ _ _ => .stuck 56 2)
    (fun _ _ _ _ _ _ _ _ _ _ _ _ => .stuck 56 3)
    (fun _ _ κ _ T m i ch => @Bool.rec (fun _ => Out) (.stuck 57 0) (retE (ev V n) q κ (.ok (.ret (.ref (Nat.add V.n₁ m)))) (T.ins m ob) (Nat.succ m) (Nat.add i tk) ch) ((T.ins m ob).get m).isSome) (fun a b => .stuck a b) o
section
variable {D : Wd} {V : St}
theorem good_new (O : Ok D V) {o : Out} {n q tk : Nat} {ob : Obj} {id : String} {args : Args} {B : Builtin} {S : Spec} (hc : codeOf o = .builtin id args) (hf : ob.isFreed = false)
    (plain : plainId id = true) (entry : entryFor table id = some B) (hm : Meets (B args) S)
    (hS : ∀ (A : Around) (R : Result → Shared → Prop) (s : Shared), (∀ a x, lookO V o a = some x → s.heap.get? a = some x) →
      R (.ok (.ret (.ref s.heap.objs.size))) { s with heap := s.heap.push ob, toks := s.toks + tk } → S A R s)
    (H : Good D V (afterNew V n q o ob tk)) : Good D V o := by
  cases o with
  | code Γ p κ c T m i ch =>
    have hc : c = .builtin id args := hc
    subst hc
    have H : Good D V (@Bool.rec (fun _ => Out) (.stuck 57 0) (retE (ev V n) q κ (.ok (.ret (.ref (Nat.add V.n₁ m)))) (T.ins m ob) (Nat.succ m) (Nat.add i tk) ch) ((T.ins m ob).get m).isSome) := H
    cases hg : ((T.ins m ob).get m).isSome with
    | false => rw [hg] at H; cases H
    | true =>
      rw [hg] at H
      intro h D'
      refine ⟨plainId_quiet plain args, ?_⟩
      refine codeAny_builtin (A := aroundΓ Γ) entry ?_ (Γ.goto _) p rfl (below_here Γ)
      rw [Around.under_plainId plain args]
      refine hm D.prog D.w (aroundΓ Γ) (postK D κ) (sh D V h i) (hS _ _ _ (fun a x e => ?_) ?_)
      · have e : lookE V T ch a = some x := e
        rw [lookE_eq V D] at e
        exact D'.look O.xv e
      · have D2 := D'.alloc O.xv hf hg
        have z := ret_good O (show Good D V (retE (ev V n) q κ (.ok (.ret (.ref (Nat.add V.n₁ m)))) (T.ins m ob) (m + 1) (Nat.add i tk) ch) from H) D2
        have e : sh D V (h.push ob) (Nat.add i tk) = { sh D V h i with heap := (sh D V h i).heap.push ob, toks := (sh D V h i).toks + tk } := by
          show sh D V (h.push ob) (i + tk) = _
          unfold sh
          rw [← Nat.add_assoc]
        rw [← e]
        have es : (sh D V h i).heap.objs.size = V.n₁ + m := D'.size
        rw [es]
        exact z
  | _ => cases H
end
end Mine

-- Steps
set_option maxRecDepth 100000
open PySem PySem.W PySem.W.X
namespace Mine
def argsOf (c : Code) : List Value := match c with
  | .builtin _ a => a.pos
  | _ => []
def intOf : Value → Int
  | .int a _ => a
  | _ => 0
def tokV : Value → Tok
  | .int _ t => t
  | .str _ t => t
  | _ => 0
def refV : Value → Addr
  | .ref a => a
  | _ => 0
noncomputable def intA (o : Out) (j : Nat) : Int := intOf ((argsOf (codeOf o)).getD j .none)
noncomputable def tokA (o : Out) (j : Nat) : Tok := tokV ((argsOf (codeOf o)).getD j .none)
noncomputable def refA (o : Out) (j : Nat) : Addr := refV ((argsOf (codeOf o)).getD j .none)
/-- two ints are handed over -/
noncomputable def twoI (o : Out) : Args := ⟨[.int (intA o 0) (tokA o 0), .int (intA o 1) (tokA o 1)], []⟩
noncomputable def oneI (o : Out) : Args := ⟨[.int (intA o 0) (tokA o 0)], []⟩
noncomputable def refI (o : Out) : Args := ⟨[.ref (refA o 0), .int (intA o 1) (tokA o 1)], []⟩

theorem str_nil_left {x y : Str} (h : (x.length == 0) = true) : x ++ y = y := by
  obtain ⟨a⟩ := x; obtain ⟨b⟩ := y
  have : a = #[] := by
    have h : a.size = 0 := by simpa [Str.length] using h
    exact Array.eq_empty_of_size_eq_zero h
  subst this
  show (⟨#[] ++ b⟩ : Str) = ⟨b⟩
  simp
theorem str_nil_right {x y : Str} (h : (y.length == 0) = true) : x ++ y = x := by
  obtain ⟨a⟩ := x; obtain ⟨b⟩ := y
  have : b = #[] := by
    have h : b.size = 0 := by simpa [Str.length] using h
    exact Array.eq_empty_of_size_eq_zero h
  subst this
  show (⟨a ++ #[]⟩ : Str) = ⟨a⟩
  simp

theorem meets_item (l : Addr) (items : Array Value) (n : Nat) (k : Int) (u : Tok) (x : Value) (h0 : 0 ≤ k) (hfit : k < 2 ^ 63) (hx : items[k.toNat]? = some x) :
    Meets (Builtin.«list.__getitem__» ⟨[.ref l, .int k u], []⟩) (fun _ R s => (∃ o, s.heap.get? l = some o ∧ o.data = .seq items n) ∧ R (.ok (.ret x)) s) :=
  .of_wp fun prog w A R s h => by
    obtain ⟨⟨o, ho, hd⟩, h⟩ := h
    show wpAny _ _ (Builtin.List.listSubscript? (.int k u) >>= _) _ _ s
    refine wpAny_bind (wpAny_listSubscript_int (fitsIndex_of h0 hfit) ?_)
    clear hfit
    obtain ⟨j, rfl⟩ := Int.eq_ofNat_of_zero_le h0
    have hx' : items[j]? = some x := hx
    show wpAny _ _ ((seqItemAt l j >>= fun r => pure (r.map (j, ·))) >>= _) _ _ s
    refine wpAny_bind (wpAny_bind (wpAny_seqItemAt ho hd (wpAny_pure ?_)))
    rw [hx']
    first
      | exact wpAny_bind (wpAny_pure (wpAny_pure ⟨x, rfl, h⟩))
      | exact wpAny_pure ⟨x, rfl, h⟩

theorem meets_slice (l sl : Addr) (items : Array Value) (n : Nat) (vl vu vs : Value) (lo hi : Option Int) (pl : IsPart vl lo) (pu : IsPart vu hi) (ps : IsPart vs none) (hsz : items.size ≤ sizeLine) :
    Meets (Builtin.«list.__getitem__» ⟨[.ref l, .ref sl], []⟩) (fun _ R s => (∃ o, s.heap.get? l = some o ∧ o.data = .seq items n) ∧ s.heap.IsSliceOf sl vl vu vs ∧
      R (.ok (.ret (.ref s.heap.objs.size))) { s with heap := s.heap.push { cls := .type "list", data := .seq (slicePick items lo hi none) } }) :=
  .of_wp fun prog w A R s h => by
    obtain ⟨⟨o, ho, hd⟩, hs, h⟩ := h
    obtain ⟨os, hos, hcs, hds⟩ := id hs
    have hTs : s.TypeIs (.ref sl) "slice" := ⟨os, hos, hcs⟩
    show wpAny _ _ (Builtin.List.listSubscript? (.ref sl) >>= _) _ _ s
    refine wpAny_bind ?_
    unfold Builtin.List.listSubscript?
    refine wpAny_bind (wpAny_specialOf hTs slice_no_index ?_)
    simp only [Option.isNone_none, if_true]
    refine wpAny_pure ?_
    show wpAny _ _ (typeOf (.ref sl) >>= _) _ _ s
    refine wpAny_bind (wpAny_typeOf hTs ?_)
    rw [if_neg (by decide)]
    rw [listSliceParts_eq]
    have hstep : ¬ ((rawPart none == rawInt 0) = true) := Bool.false_ne_true
    refine wpAny_bind (wpAny_bind (wpAny_field hos hds (x := vs) rfl (wpAny_bind (wpAny_listPart ps ?_))))
    rw [if_neg hstep]
    refine wpAny_bind (wpAny_field hos hds (x := vl) rfl (wpAny_bind (wpAny_listPart pl ?_)))
    refine wpAny_bind (wpAny_field hos hds (x := vu) rfl (wpAny_bind (wpAny_listPart pu (wpAny_pure ?_))))
    refine wpAny_bind (m := Builtin.List.listItems (.ref l)) ?_
    unfold Builtin.List.listItems
    refine wpAny_bind (wpAny_seqItems ho hd (wpAny_pure ?_))
    refine wpAny_bind (wpAny_of_eq (sliceIndices_raw lo hi none items.size (by simp)) ?_)
    refine wpAny_bind (wpAny_newObj_type (wpAny_pure ⟨_, rfl, h⟩) (Nat.le_trans (slicePick_size_le items lo hi none) hsz))

theorem slice_thirty (items : Array Value) : slicePick items none (some 30) none = (items.toList.take 30).toArray := by
  have e : slicePick items none (some 30) none = slicePick items none (some ((min 30 items.size : Nat) : Int)) none := by
    have e : sliceBounds none (some 30) none items.size = sliceBounds none (some ((min 30 items.size : Nat) : Int)) none items.size := by
      simp only [sliceBounds, Option.getD_none]
      have h1 : ¬ ((30 : Int) < 0) := by omega
      have h2 : ¬ (((min 30 items.size : Nat) : Int) < 0) := by omega
      simp only [h1, h2, if_false, show (1 : Int) > 0 by decide, if_true]
      congr 1
      congr 1; omega
    unfold slicePick
    rw [e]
  rw [e, slicePick_upto items _ (Nat.min_le_right _ _)]
  congr 1
  by_cases h : 30 ≤ items.size
  · rw [Nat.min_eq_left h]
  · have h : items.size ≤ 30 := by omega
    rw [Nat.min_eq_right h, List.take_of_length_le (by simp), List.take_of_length_le (by simpa using h)]

section
variable {D : Wd} {V : St}
theorem fine_addG (O : Ok D V) {o : Out} {n q : Nat} (hc : codeOf o = .builtin "int.__add__" (twoI o)) (H : ∀ y u, Fine D V (after V n q o (.ok (.ret (.int y u))) 1)) : Fine D V o :=
  fine_add O _ _ _ _ hc (H _ _)
theorem fine_mulG (O : Ok D V) {o : Out} {n q : Nat} (b : Int) (hb : intA o 1 = b) (hs : Builtin.Int.intBits b ≤ 64) (hc : codeOf o = .builtin "int.__mul__" (twoI o)) (H : ∀ y u, Fine D V (after V n q o (.ok (.ret (.int y u))) 1)) : Fine D V o :=
  fine_mul O _ _ _ _ (.of_right (by rw [hb]; exact hs)) hc (H _ _)
theorem fine_modG (O : Ok D V) {o : Out} {n q : Nat} (b : Int) (hb : intA o 1 = b) (hp : 0 < b) (hc : codeOf o = .builtin "int.__mod__" (twoI o)) (H : ∀ y u, 0 ≤ y → y < b → Fine D V (after V n q o (.ok (.ret (.int y u))) 1)) : Fine D V o :=
  fine_mod O _ _ _ _ (by rw [hb]; simp; omega) hc (H _ _ (by rw [hb]; exact Int.fmod_nonneg_of_pos _ hp) (by rw [hb]; exact Int.fmod_lt_of_pos _ hp))
theorem fine_divG (O : Ok D V) {o : Out} {n q : Nat} (b : Int) (hb : intA o 1 = b) (h0 : ¬ (b == 0) = true) (hd : ∀ a, ¬ (Builtin.divisionGoesByPylong a b) = true) (hc : codeOf o = .builtin "int.__floordiv__" (twoI o)) (H : ∀ y u, Fine D V (after V n q o (.ok (.ret (.int y u))) 1)) : Fine D V o :=
  fine_int O hc (by decide +kernel) (entryFor_of_tree (by kernel_rfl)) (AutoIntG4.int___floordiv___int_int_1 _ _ _ _ (by rw [hb]; exact h0) (by rw [hb]; exact hd _)) (H _ _)
theorem fine_absG (O : Ok D V) {o : Out} {n q : Nat} (hc : codeOf o = .builtin "int.__abs__" (oneI o)) (H : ∀ y u tk, Fine D V (after V n q o (.ok (.ret (.int y u))) tk)) : Fine D V o := by
  by_cases h : intA o 0 < 0
  · exact fine_int O hc (by decide +kernel) (entryFor_of_tree (by kernel_rfl)) (AutoIntG0.int___abs___int_0 _ _ h) (H _ _ _)
  · exact fine_val O hc (by decide +kernel) (entryFor_of_tree (by kernel_rfl)) (AutoIntG1.int___abs___int_1 _ _ h) (H _ _ _)
theorem fine_ltT (O : Ok D V) {o : Out} {n q : Nat} (a b : Int) (ha : intA o 0 = a) (hb : intA o 1 = b) (h : a < b) (hc : codeOf o = .builtin "int.__lt__" (twoI o)) (H : Fine D V (after V n q o (.ok (.ret (.bool true))) 0)) : Fine D V o :=
  fine_lt O _ _ _ _ hc (by rw [ha, hb, decide_eq_true h]; exact H)
theorem fine_catG (O : Ok D V) {o : Out} {n q : Nat} (x y : Str) (hs : (x ++ y).length ≤ sizeLine) (hc : codeOf o = .builtin "str.__add__" ⟨[.str x (tokA o 0), .str y (tokA o 1)], []⟩)
    (H : ∀ u tk, Fine D V (after V n q o (.ok (.ret (.str (x ++ y) u))) tk)) : Fine D V o := by
  have g := gives_str_add x y (tokA o 0) (tokA o 1)
  cases hx : (x.length == 0) with
  | true =>
    rw [hx] at g
    have z := H (tokA o 1) 0
    rw [str_nil_left hx] at z
    exact fine_val O hc (by decide +kernel) (entryFor_of_tree (by kernel_rfl)) g z
  | false =>
    rw [hx] at g
    cases hy : (y.length == 0) with
    | true =>
      rw [hy] at g
      have z := H (tokA o 0) 0
      rw [str_nil_right hy] at z
      exact fine_val O hc (by decide +kernel) (entryFor_of_tree (by kernel_rfl)) g z
    | false =>
      rw [hy] at g
      have g : Gives (Builtin.«str.__add__» ⟨[.str x (tokA o 0), .str y (tokA o 1)], []⟩) (.str (x ++ y)) := g
      exact ⟨good_meets (tk := 1) O hc (by decide +kernel) (entryFor_of_tree (by kernel_rfl)) g.meets (fun _ _ s _ _ ht hR => ⟨hs, by rw [ht] at hR ⊢; exact hR⟩) (H (tokO V o) 1).is⟩

/-- the seq of an object -/
def seqOf : Option Obj → List Value
  | some ⟨_, _, .seq xs _, _⟩ => xs.toList
  | _ => []
def isSeq : Option Obj → Bool
  | some ⟨_, _, .seq _ _, _⟩ => true
  | _ => false
theorem seq_is {x : Option Obj} {ys : List Value} (hs : isSeq x = true) (hl : seqOf x = ys) : ∃ o n, x = some o ∧ o.data = .seq ys.toArray n := by
  unfold isSeq at hs
  split at hs
  · rename_i c d xs n sl
    have hl : xs.toList = ys := hl
    refine ⟨_, n, rfl, ?_⟩
    subst hl
    show Data.seq xs n = Data.seq xs.toList.toArray n
    simp
  · cases hs
theorem fine_item (O : Ok D V) {o : Out} {n q : Nat} (ys : List Value) (k : Int) (v : Value) (hc : codeOf o = .builtin "list.__getitem__" (refI o)) (hs : isSeq (lookO V o (refA o 0)) = true) (hl : seqOf (lookO V o (refA o 0)) = ys)
    (hk : intA o 1 = k) (h0 : 0 ≤ k) (hfit : k < 2 ^ 63) (hx : ys[k.toNat]? = some v) (H : Fine D V (after V n q o (.ok (.ret v)) 0)) : Fine D V o := by
  obtain ⟨ob, nn, e1, e2⟩ := seq_is hs hl
  refine ⟨good_meets (tk := 0) O hc (by decide +kernel) (entryFor_of_tree (by kernel_rfl)) (meets_item (refA o 0) ys.toArray nn (intA o 1) (tokA o 1) v (by rw [hk]; exact h0) (by rw [hk]; exact hfit) (by rw [hk]; simpa using hx))
    (fun _ _ s hh _ _ hR => ⟨⟨ob, hh _ _ e1, e2⟩, hR⟩) H.is⟩
theorem meets_len (l : Addr) (items : Array Value) (hfit : (items.size : Int) < 2 ^ 63) :
    Meets (Builtin.«len» ⟨[.ref l], []⟩) (fun _ R s => s.heap.IsList l items ∧ R (.ok (.ret (.int items.size (s.toks + 1)))) { s with toks := s.toks + 1 + 1 }) :=
  .of_wp fun prog w A R s h => wpAny_len_body_list h.1 hfit h.2
def isList : Option Obj → Bool
  | some ⟨.type "list", _, .seq _ _, _⟩ => true
  | _ => false
theorem list_is {x : Option Obj} {ys : List Value} (hs : isList x = true) (hl : seqOf x = ys) : ∃ o n, x = some o ∧ o.cls = .type "list" ∧ o.data = .seq ys.toArray n := by
  unfold isList at hs
  split at hs
  · rename_i d xs n sl
    have hl : xs.toList = ys := hl
    refine ⟨_, n, rfl, rfl, ?_⟩
    subst hl
    show Data.seq xs n = Data.seq xs.toList.toArray n
    simp
  · cases hs
theorem fine_len (O : Ok D V) {o : Out} {n q : Nat} (ys : List Value) (hc : codeOf o = .builtin "len" ⟨[.ref (refA o 0)], []⟩) (hs : isList (lookO V o (refA o 0)) = true) (hl : seqOf (lookO V o (refA o 0)) = ys)
    (hfit : ys.length < 1000) (H : ∀ u, Fine D V (after V n q o (.ok (.ret (.int (Int.ofNat ys.length) u))) 2)) : Fine D V o := by
  obtain ⟨ob, nn, e1, e2, e3⟩ := list_is hs hl
  refine ⟨good_meets (tk := 2) O hc (by decide +kernel) (entryFor_of_tree (by kernel_rfl)) (meets_len (refA o 0) ys.toArray (by simp; omega)) (fun _ _ s hh _ ht hR => ⟨⟨ob, hh _ _ e1, e2, nn, e3⟩, ?_⟩) (H (tokO V o + 1)).is⟩
  rw [← ht] at hR
  simpa using hR
/-- strs alone -/
def strsV : List Value → List Str
  | [] => []
  | .str x _ :: vs => x :: strsV vs
  | _ :: _ => []
theorem strsV_get : ∀ {vs : List Value} {i : Nat} {x : Str}, (strsV vs)[i]? = some x → ∃ u, vs[i]? = some (.str x u)
  | [], i, x, h => by cases h
  | v :: vs, i, x, h => by
    cases v with
    | str y t =>
      cases i with
      | zero =>
        have h : some y = some x := h
        cases h
        exact ⟨t, rfl⟩
      | succ i => exact strsV_get (vs := vs) (i := i) h
    | _ => cases h
theorem fine_pick (O : Ok D V) {o : Out} {n q : Nat} (xs : List Str) (hc : codeOf o = .builtin "list.__getitem__" (refI o)) (hs : isSeq (lookO V o (refA o 0)) = true) (hl : strsV (seqOf (lookO V o (refA o 0))) = xs)
    (k : Int) (hk : intA o 1 = k) (h0 : 0 ≤ k) (b : Int) (hb : k < b) (hlen : b = xs.length) (hfit : b < 1000) (H : ∀ x u, x ∈ xs → Fine D V (after V n q o (.ok (.ret (.str x u))) 0)) : Fine D V o := by
  have hi : k.toNat < xs.length := by omega
  obtain ⟨x, e⟩ : ∃ x, xs[k.toNat]? = some x := ⟨_, List.getElem?_eq_getElem hi⟩
  have hm : x ∈ xs := List.mem_of_getElem? e
  rw [← hl] at e
  obtain ⟨u, hu⟩ := strsV_get e
  exact fine_item O _ k _ hc hs rfl hk h0 (by omega) hu (H x u hm)
def sliceIs (v : Option Obj) : Bool := match v with
  | some ⟨.type "slice", _, .fields vs, _⟩ => match vs.toList with
    | [.none, .int 30 _, .none] => true
    | _ => false
  | _ => false
theorem sliceIs_eq {x : Option Obj} (h : sliceIs x = true) : ∃ o t, x = some o ∧ o.cls = .type "slice" ∧ o.data = .fields #[.none, .int 30 t, .none] := by
  unfold sliceIs at h
  split at h
  · rename_i c vs sl
    split at h
    · rename_i t e
      refine ⟨_, t, rfl, rfl, ?_⟩
      show Data.fields vs = _
      have : vs = (vs.toList).toArray := by simp
      rw [this, e]
    · cases h
  · cases h
theorem fine_slice (O : Ok D V) {o : Out} {n q : Nat} (a b c : Value) (rest : List Value) (hr : rest.length < 1000) (hc : codeOf o = .builtin "list.__getitem__" ⟨[.ref (refA o 0), .ref (refA o 1)], []⟩) (hs : isSeq (lookO V o (refA o 0)) = true)
    (hl : seqOf (lookO V o (refA o 0)) = a :: b :: c :: rest) (hsl : sliceIs (lookO V o (refA o 1)) = true)
    (H : ∀ r : List Value, r.length ≤ 27 → Fine D V (afterNew V n q o { cls := .type "list", data := .seq (a :: b :: c :: r).toArray } 0)) : Fine D V o := by
  obtain ⟨ob, nn, e1, e2⟩ := seq_is hs hl
  obtain ⟨ob2, t, e3, e4, e5⟩ := sliceIs_eq hsl
  refine ⟨good_new (tk := 0) O hc rfl (by decide +kernel) (entryFor_of_tree (by kernel_rfl)) (meets_slice (refA o 0) (refA o 1) (a :: b :: c :: rest).toArray nn .none (.int 30 t) .none none (some 30) .none (.int 30 t) .none
      (by show (a :: b :: c :: rest).toArray.size ≤ 2 ^ 24; simp; omega))
    (fun _ _ s hh hR => ⟨⟨ob, hh _ _ e1, e2⟩, ⟨ob2, hh _ _ e3, e4, e5⟩, ?_⟩) (H (rest.take 27) (by simp; omega)).is⟩
  rw [slice_thirty]
  exact hR
end
end Mine

-- Lay
open PySem PySem.W PySem.W.X PySem.W.ZRun PyProof.Rows
namespace Mine
set_option Elab.async false
set_option maxRecDepth 100000 in
set_option maxHeartbeats 0 in
noncomputable def lay : {X : Prop // Given X → PySem.Challenge.rw_bl0006_01.Holds} := by
  refine' ⟨_, _⟩
  rotate_left
  · intro hx
    w_on; o_law; z_head; (case hw => w_witness2)
    exact rfl
end Mine

-- Defs
open PySem PySem.W PySem.W.X PyProof.Rows
namespace Mine
def tabsL : List (Nat × Nat) := [(8,9),(33,37),(42,46),(58,62),(66,70),(74,78),(82,86),(90,94),(99,103),(108,112),(117,121),(124,128),(131,135),(138,142),(145,149),(152,156),(159,163),(166,170),(185,189),(193,195),(209,213),(222,226),(230,234),(238,242),(254,256),(261,265),(269,273),(277,281),(287,291),(300,304),(307,311),(331,335),(338,342),(345,349),(355,359),(383,387),(390,394),(397,401),(405,409),(434,438),(441,445),(448,452),(458,462),(484,488),(491,495),(498,502),(508,512),(517,521),(525,529),(552,556),(559,563),(566,570),(573,575),(578,582),(585,589),(592,596),(599,603)]
def lawDef : Option (List Stmt × Scope) := match PySem.Challenge.pw_bl0006_01.main.body.getLast? with
  | some (.FunctionDef _ _ body _ _ _ sc _ _ _) => some (body, sc)
  | _ => none
def lawBody : List Stmt := (lawDef.map (·.1)).getD []
def lawScope : Scope := (lawDef.map (·.2)).getD ⟨.function, [], false, false, []⟩
def lawEnv : Env := { scope := lawScope, locals := 606, globals := 3, cells := [], qual := "law.<locals>.", func := some 604, code := .ref 603, frame := some 606, builtins := 0 }
def lawΓ : Ctx := ⟨.func lawBody lawEnv, none, none, [(.builtin "claim.caller" {}, default)], none⟩
structure MidV where
  a1 : Tok
  a2 : Tok
  a3 : Tok
  a4 : Tok
  a5 : Tok
  a6 : Tok
  kt : Tok
  xt : Tok
  fr : Value
  bh : Value
  o1 : Obj
  o2 : Obj
  o3 : Obj
  o4 : Obj
  o5 : Obj
  o6 : Obj
  o7 : Obj
  o8 : Obj
  o9 : Obj
def midFrame (P : Params) (m : MidV) (k : Int) (x : Str) : Obj :=
  { cls := .type "frame", data := .dict #[⟨PyData.keyHash P "script", .str "script" m.a1, .ref 605⟩, ⟨PyData.keyHash P "state", .str "state" m.a2, .ref 609⟩, ⟨PyData.keyHash P "kind", .str "kind" m.a3, .int k m.kt⟩,
      ⟨PyData.keyHash P "front", .str "front" m.a4, m.fr⟩, ⟨PyData.keyHash P "behind", .str "behind" m.a5, m.bh⟩, ⟨PyData.keyHash P "text", .str "text" m.a6, .str x m.xt⟩] 6 }
def midT (P : Params) (m : MidV) (k : Int) (x : Str) : BT :=
  .node (midFrame P m k x) (.node m.o1 (.node m.o3 (.node m.o7 .nil .nil) .nil) (.node m.o5 (.node m.o9 .nil .nil) .nil)) (.node m.o2 (.node m.o4 (.node m.o8 .nil .nil) .nil) (.node m.o6 .nil .nil))
noncomputable def V2 (P : Params) (t : Nat) : St := ⟨⟨PySem.Challenge.pw_bl0006_01, P⟩, 606, lay.ktop_1134 P, tabsL, t + 1527⟩
noncomputable def rest0 (P : Params) (m : MidV) (k : Int) (x : Str) (p : Pos) : Out := .fuel lawΓ p [] (den (.func (lawBody.drop 4) lawEnv)) (midT P m k x) 10 0 []
/-- a text's run, from behind the law's fourth statement -/
def RunOk (k : Int) (x : Str) : Prop := ∀ (P : Params) (t : Nat) (m : MidV) (p : Pos) (D : Wd), Ok D (V2 P t) →
  (∀ T mm i ch h, Rep (D.xv (V2 P t)) h T mm ch → D.R (.ok (.ret (.bool true))) (sh D (V2 P t) h i)) → Fine D (V2 P t) (rest0 P m k x p)
set_option maxRecDepth 1000000
set_option maxHeartbeats 0
end Mine

-- MidEnd
set_option maxRecDepth 100000
open PySem PySem.W PySem.W.X
namespace Mine
theorem fine_mid {D : Wd} {V : St} (O : Ok D V) {o o' : Out} {P : Params} {t i : Nat} {mv : MidV} {k : Int} {x : Str} (hn : V.n₁ = 606) (hset : V.set = ⟨PySem.Challenge.pw_bl0006_01, P⟩) (hkt : (lay.ktop_1134 P).Holds D.h₀ 1 0)
    (htab : ∀ a vs, tabAt (V2 P t) a = some vs → ∃ c, D.h₀.TableAt c a vs) (hctx : ctxO o = lawΓ) (ht : V.t₀ + i = t + 1527)
    (hK : ∀ T m j ch h, Rep (D.xv (V2 P t)) h T m ch → postK D (konO o) (.ok (.ret (.bool true))) (sh D (V2 P t) h j))
    (e : o' = .done (.ok .next) (midT P mv k x) 10 i []) (run : RunOk k x) : Fine (midD D o (lawBody.drop 4) lawEnv) V o' := by
  subst e
  refine ⟨fun h D' => ⟨rfl, fun p => ?_⟩⟩
  let D2 : Wd := { D with R := postK D (konO o) }
  have O2 : Ok D2 (V2 P t) := ⟨by rw [← O.set, hset]; rfl, by show D.h₀.objs.size = 606; rw [O.size, hn], hkt, htab⟩
  have g := (run P t mv p D2 O2 (fun T m j ch h r => hK T m j ch h ⟨r.size, r.own, r.keep, r.ch⟩)).is
  have DR : Rep (D2.xv (V2 P t)) h (midT P mv k x) 10 [] := by
    refine ⟨?_, ?_, D'.keep, D'.ch⟩
    · show h.objs.size = 606 + 10
      rw [← hn]; exact D'.size
    · intro j ob ej
      have z := D'.own j ob ej
      refine ⟨z.1, ?_⟩
      show h.get? (606 + j) = some ob
      rw [← hn]; exact z.2
  have w := (show ∀ h, Rep (D2.xv (V2 P t)) h (midT P mv k x) 10 [] → Wk D2 lawΓ p [] (den (.func (lawBody.drop 4) lawEnv)) (sh D2 (V2 P t) h 0) from g) h DR
  rw [hctx]
  have es : sh (midD D o (lawBody.drop 4) lawEnv) V h i = sh D2 (V2 P t) h 0 := by
    unfold sh
    show (⟨h, #[], D.d, V.t₀ + i, D.os⟩ : Shared) = ⟨h, #[], D.d, t + 1527 + 0, D.os⟩
    rw [ht, Nat.add_zero]
  rw [es]
  exact w
end Mine

-- PreA
set_option maxRecDepth 1000000
open PySem PySem.W PySem.W.X
namespace Mine
noncomputable def V0 (P : Params) (xs : List Value) (t : Nat) : St := ⟨⟨PySem.Challenge.pw_bl0006_01, P⟩, 606, (lay.ktop_1134 P).put 40 605 { cls := .type "list", data := .seq xs.toArray }, tabsL, t + 1527⟩
noncomputable def start : Out := .fuel callerΓ default [] (do ret (← call (.ref 604) [.ref 605])) .nil 0 0 []
def objAt (T : BT) (j : Nat) : Obj := (T.get j).getD { cls := .none }
def entryAt (o : Obj) (j : Nat) : DictEntry := match o.data with
  | .dict es _ => es.toList.getD j ⟨0, .none, .none⟩
  | _ => ⟨0, .none, .none⟩
def tokOf : Value → Tok
  | .str _ t => t
  | .int _ t => t
  | _ => 0
def midOf (T : BT) : MidV :=
  let f := objAt T 0
  ⟨tokOf (entryAt f 0).key, tokOf (entryAt f 1).key, tokOf (entryAt f 2).key, tokOf (entryAt f 3).key, tokOf (entryAt f 4).key, tokOf (entryAt f 5).key, tokOf (entryAt f 2).val, tokOf (entryAt f 5).val,
    (entryAt f 3).val, (entryAt f 4).val, objAt T 1, objAt T 2, objAt T 3, objAt T 4, objAt T 5, objAt T 6, objAt T 7, objAt T 8, objAt T 9⟩
noncomputable def treeO (o : Out) : BT :=
  @Out.rec (fun _ => BT) (fun _ T _ _ _ => T) (fun _ _ _ _ _ _ _ _ => .nil) (fun _ _ _ _ _ _ _ _ => .nil) (fun _ _ _ _ _ _ _ _ _ _ _ _ => .nil) (fun _ _ _ _ _ _ _ _ => .nil) (fun _ _ => .nil) o
noncomputable def toksO (o : Out) : Nat :=
  @Out.rec (fun _ => Nat) (fun _ _ _ i _ => i) (fun _ _ _ _ _ _ _ _ => 0) (fun _ _ _ _ _ _ _ _ => 0) (fun _ _ _ _ _ _ _ _ _ _ _ _ => 0) (fun _ _ _ _ _ _ _ _ => 0) (fun _ _ => 0) o
theorem fine_mid2 {D : Wd} {V : St} (O : Ok D V) {o o' : Out} {P : Params} (t i : Nat) (k : Int) (x : Str) (hn : V.n₁ = 606) (hset : V.set = ⟨PySem.Challenge.pw_bl0006_01, P⟩) (hkt : (lay.ktop_1134 P).Holds D.h₀ 1 0)
    (htab : ∀ a vs, tabAt (V2 P t) a = some vs → ∃ c, D.h₀.TableAt c a vs) (hctx : ctxO o = lawΓ) (ht : V.t₀ + i = t + 1527)
    (hK : ∀ T m j ch h, Rep (D.xv (V2 P t)) h T m ch → postK D (konO o) (.ok (.ret (.bool true))) (sh D (V2 P t) h j))
    (e : o' = .done (.ok .next) (midT P (midOf (treeO o')) k x) 10 i []) (run : RunOk k x) : Fine (midD D o (lawBody.drop 4) lawEnv) V o' :=
  fine_mid O hn hset hkt htab hctx ht hK e run
end Mine

-- PreNil
set_option maxRecDepth 1000000
set_option maxHeartbeats 0
open PySem PySem.W PySem.W.X
namespace Mine
theorem pre_nil (P : Params) (t : Nat) (D : Wd) (O : Ok D (V0 P [] t)) (hkt : (lay.ktop_1134 P).Holds D.h₀ 1 0) (htab : ∀ u a vs, tabAt (V2 P u) a = some vs → ∃ c, D.h₀.TableAt c a vs)
    (hK : ∀ u T m j ch h, Rep (D.xv (V2 P u)) h T m ch → postK D (konO (go (V0 P [] t) 100000 2 start)) (.ok (.ret (.bool true))) (sh D (V2 P u) h j))
    (run : RunOk 3 ⟨#[45, 55]⟩) : Fine D (V0 P [] t) (go (V0 P [] t) 100000 2 start) := by
  refine fine_func O (n := 100000) (q := 15) (lawBody.take 4) (lawBody.drop 4) lawEnv (by kernel_rfl) (by kernel_rfl) ?_
  refine fine_ask (O.mid _ _ _) (n := 100000) (q := 21) (by kernel_rfl) ?_
  refine fine_ask (O.mid _ _ _) (n := 100000) (q := 26) (by kernel_rfl) ?_
  refine fine_ask (O.mid _ _ _) (n := 100000) (q := 36) (by kernel_rfl) ?_
  refine fine_ask (O.mid _ _ _) (n := 100000) (q := 1000) (by kernel_rfl) ?_
  exact fine_mid2 O (t + 69) 69 3 ⟨#[45, 55]⟩ rfl rfl hkt (htab _) (by kernel_rfl) (by show t + 1527 + 69 = t + 69 + 1527; omega) (hK _) (by kernel_rfl) run
end Mine

-- Pre_all
set_option maxRecDepth 1000000
set_option maxHeartbeats 0
open PySem PySem.W PySem.W.X
namespace Mine
def front0 : List Str := [⟨#[]⟩, ⟨#[43]⟩, ⟨#[45]⟩, ⟨#[49]⟩, ⟨#[45, 53, 51]⟩, ⟨#[43, 48]⟩, ⟨#[49, 50, 51]⟩, ⟨#[45, 45]⟩, ⟨#[45, 48, 48]⟩, ⟨#[43, 120]⟩, ⟨#[49, 43]⟩, ⟨#[57]⟩]
def behind0 : List Str := [⟨#[83, 85]⟩, ⟨#[109, 111]⟩, ⟨#[84, 117]⟩, ⟨#[119, 69]⟩, ⟨#[84, 72]⟩, ⟨#[102, 114]⟩, ⟨#[83, 65]⟩, ⟨#[120, 120]⟩, ⟨#[83]⟩, ⟨#[83, 85, 78]⟩, ⟨#[49, 50]⟩, ⟨#[]⟩]
def front1 : List Str := [⟨#[]⟩, ⟨#[49]⟩, ⟨#[49, 50]⟩, ⟨#[48, 53]⟩, ⟨#[49, 50, 51]⟩, ⟨#[48]⟩, ⟨#[120]⟩, ⟨#[43, 51]⟩, ⟨#[45, 49]⟩, ⟨#[1635]⟩, ⟨#[49, 120]⟩, ⟨#[55]⟩]
def behind1 : List Str := [⟨#[]⟩, ⟨#[]⟩, ⟨#[]⟩, ⟨#[76]⟩, ⟨#[76]⟩, ⟨#[108]⟩, ⟨#[76, 76]⟩, ⟨#[120]⟩]
def front2 : List Str := [⟨#[115, 101, 99, 111, 110, 100, 108, 121]⟩, ⟨#[77, 105, 110, 117, 116, 101, 108, 121]⟩, ⟨#[72, 79, 85, 82, 76, 89]⟩, ⟨#[100, 97, 105, 108, 121]⟩, ⟨#[87, 69, 69, 75, 76, 89]⟩, ⟨#[109, 111, 110, 116, 104, 108, 89]⟩, ⟨#[89, 101, 97, 114, 108, 121]⟩, ⟨#[89, 69, 65, 82, 76]⟩, ⟨#[]⟩, ⟨#[68, 65, 73, 76, 89, 32]⟩]
def behind2 : List Str := [⟨#[]⟩, ⟨#[]⟩, ⟨#[]⟩, ⟨#[]⟩, ⟨#[89]⟩, ⟨#[120]⟩]
def front3 : List Str := [⟨#[]⟩, ⟨#[]⟩, ⟨#[43]⟩, ⟨#[45]⟩, ⟨#[45, 45]⟩, ⟨#[120]⟩]
def behind3 : List Str := [⟨#[48]⟩, ⟨#[55]⟩, ⟨#[48, 48, 55]⟩, ⟨#[50, 49, 52, 55, 52, 56, 51, 54, 52, 55]⟩, ⟨#[50, 49, 52, 55, 52, 56, 51, 54, 52, 56]⟩, ⟨#[50, 49, 52, 55, 52, 56, 51, 54, 52, 57]⟩, ⟨#[57, 57, 57, 57, 57, 57, 57, 57, 57, 57, 57]⟩, ⟨#[]⟩, ⟨#[49, 120]⟩, ⟨#[49, 50]⟩]
theorem len0 : ∀ x ∈ front0, ∀ y ∈ behind0, (x ++ y).length ≤ sizeLine := by decide +kernel
theorem len1 : ∀ x ∈ front1, ∀ y ∈ behind1, (x ++ y).length ≤ sizeLine := by decide +kernel
theorem len2 : ∀ x ∈ front2, ∀ y ∈ behind2, (x ++ y).length ≤ sizeLine := by decide +kernel
theorem len3 : ∀ x ∈ front3, ∀ y ∈ behind3, (x ++ y).length ≤ sizeLine := by decide +kernel
def AllRuns : Prop := (∀ x ∈ front0, ∀ y ∈ behind0, RunOk 0 (x ++ y)) ∧ (∀ x ∈ front1, ∀ y ∈ behind1, RunOk 1 (x ++ y)) ∧ (∀ x ∈ front2, ∀ y ∈ behind2, RunOk 2 (x ++ y)) ∧ (∀ x ∈ front3, ∀ y ∈ behind3, RunOk 3 (x ++ y))
theorem not_long (a : Int) : ¬ (Builtin.divisionGoesByPylong a 7) = true := by
  have e : Nat.log2 7 = 2 := by decide +kernel
  unfold Builtin.divisionGoesByPylong
  simp [e]
theorem fine_mid3 {D : Wd} {V : St} (O : Ok D V) {o o' : Out} {P : Params} (t : Nat) (k : Int) (x : Str) (hn : V.n₁ = 606) (hset : V.set = ⟨PySem.Challenge.pw_bl0006_01, P⟩) (h0 : V.t₀ = t + 1527) (hkt : (lay.ktop_1134 P).Holds D.h₀ 1 0)
    (htab : ∀ u a vs, tabAt (V2 P u) a = some vs → ∃ c, D.h₀.TableAt c a vs) (hctx : ctxO o = lawΓ)
    (hK : ∀ u T m j ch h, Rep (D.xv (V2 P u)) h T m ch → postK D (konO o) (.ok (.ret (.bool true))) (sh D (V2 P u) h j))
    (e : o' = .done (.ok .next) (midT P (midOf (treeO o')) k x) 10 (toksO o') []) (run : RunOk k x) : Fine (midD D o (lawBody.drop 4) lawEnv) V o' :=
  fine_mid2 O (t + toksO o') (toksO o') k x hn hset hkt (htab _) hctx (by rw [h0]; generalize toksO o' = d; omega) (hK _) e run

theorem pre_one (a : Int) (ta : Tok) (P : Params) (t : Nat) (D : Wd) (O : Ok D (V0 P [.int a ta] t)) (hkt : (lay.ktop_1134 P).Holds D.h₀ 1 0) (htab : ∀ u a vs, tabAt (V2 P u) a = some vs → ∃ c, D.h₀.TableAt c a vs)
    (hK : ∀ u T m j ch h, Rep (D.xv (V2 P u)) h T m ch → postK D (konO (go (V0 P [.int a ta] t) 100000 2 start)) (.ok (.ret (.bool true))) (sh D (V2 P u) h j))
    (runs : AllRuns) : Fine D (V0 P [.int a ta] t) (go (V0 P [.int a ta] t) 100000 2 start) := by
  have OM := O.mid (go (V0 P [.int a ta] t) 100000 2 start) (lawBody.drop 4) lawEnv
  refine fine_func O (n := 100000) (q := 15) (lawBody.take 4) (lawBody.drop 4) lawEnv (by kernel_rfl) (by kernel_rfl) ?_
  refine fine_ask OM (n := 100000) (q := 12) (by kernel_rfl) ?_
  refine fine_absG OM (n := 100000) (q := 12) (by kernel_rfl) ?_
  intro y1 u1 tk1
  refine fine_addG OM (n := 100000) (q := 1) (by kernel_rfl) ?_
  intro y2 u2
  refine fine_modG OM (n := 100000) (q := 3) 2147483647 (by kernel_rfl) (by decide) (by kernel_rfl) ?_
  intro y3 u3 _ _
  refine fine_modG OM (n := 100000) (q := 3) 4 (by kernel_rfl) (by decide) (by kernel_rfl) ?_
  intro kd u4 kd0 kd1
  obtain rfl | rfl | rfl | rfl : kd = 0 ∨ kd = 1 ∨ kd = 2 ∨ kd = 3 := by omega
  · refine fine_ask OM (n := 100000) (q := 26) (by kernel_rfl) ?_
    refine fine_ask OM (n := 100000) (q := 5) (by kernel_rfl) ?_
    refine fine_mulG OM (n := 100000) (q := 1) 48271 (by kernel_rfl) (by decide +kernel) (by kernel_rfl) ?_
    intro y7 u7
    refine fine_addG OM (n := 100000) (q := 1) (by kernel_rfl) ?_
    intro y8 u8
    refine fine_modG OM (n := 100000) (q := 5) 2147483647 (by kernel_rfl) (by decide) (by kernel_rfl) ?_
    intro y9 u9 _ _
    refine fine_divG OM (n := 100000) (q := 1) 7 (by kernel_rfl) (by decide) not_long (by kernel_rfl) ?_
    intro y10 u10
    refine fine_modG OM (n := 100000) (q := 1) 12 (by kernel_rfl) (by decide) (by kernel_rfl) ?_
    intro z1 u11 h1 k1
    refine fine_pick OM (n := 100000) (q := 16) front0 (by kernel_rfl) (by kernel_rfl) (by kernel_rfl) z1 (by kernel_rfl) h1 12 k1 (by decide) (by decide) ?_
    intro x1 v1 m1
    refine fine_ask OM (n := 100000) (q := 5) (by kernel_rfl) ?_
    refine fine_mulG OM (n := 100000) (q := 1) 48271 (by kernel_rfl) (by decide +kernel) (by kernel_rfl) ?_
    intro y14 u14
    refine fine_addG OM (n := 100000) (q := 1) (by kernel_rfl) ?_
    intro y15 u15
    refine fine_modG OM (n := 100000) (q := 5) 2147483647 (by kernel_rfl) (by decide) (by kernel_rfl) ?_
    intro y16 u16 _ _
    refine fine_divG OM (n := 100000) (q := 1) 7 (by kernel_rfl) (by decide) not_long (by kernel_rfl) ?_
    intro y17 u17
    refine fine_modG OM (n := 100000) (q := 1) 12 (by kernel_rfl) (by decide) (by kernel_rfl) ?_
    intro z2 u18 h2 k2
    refine fine_pick OM (n := 100000) (q := 1) behind0 (by kernel_rfl) (by kernel_rfl) (by kernel_rfl) z2 (by kernel_rfl) h2 12 k2 (by decide) (by decide) ?_
    intro x2 v2 m2
    refine fine_catG OM (n := 100000) (q := 1000) x1 x2 (len0 x1 m1 x2 m2) (by kernel_rfl) ?_
    intro u20 tk20
    exact fine_mid3 O t 0 (x1 ++ x2) rfl rfl rfl hkt htab (by kernel_rfl) hK (by kernel_rfl) (runs.1 x1 m1 x2 m2)
  · refine fine_ask OM (n := 100000) (q := 26) (by kernel_rfl) ?_
    refine fine_ask OM (n := 100000) (q := 5) (by kernel_rfl) ?_
    refine fine_mulG OM (n := 100000) (q := 1) 48271 (by kernel_rfl) (by decide +kernel) (by kernel_rfl) ?_
    intro y7 u7
    refine fine_addG OM (n := 100000) (q := 1) (by kernel_rfl) ?_
    intro y8 u8
    refine fine_modG OM (n := 100000) (q := 5) 2147483647 (by kernel_rfl) (by decide) (by kernel_rfl) ?_
    intro y9 u9 _ _
    refine fine_divG OM (n := 100000) (q := 1) 7 (by kernel_rfl) (by decide) not_long (by kernel_rfl) ?_
    intro y10 u10
    refine fine_modG OM (n := 100000) (q := 1) 12 (by kernel_rfl) (by decide) (by kernel_rfl) ?_
    intro z1 u11 h1 k1
    refine fine_pick OM (n := 100000) (q := 16) front1 (by kernel_rfl) (by kernel_rfl) (by kernel_rfl) z1 (by kernel_rfl) h1 12 k1 (by decide) (by decide) ?_
    intro x1 v1 m1
    refine fine_ask OM (n := 100000) (q := 5) (by kernel_rfl) ?_
    refine fine_mulG OM (n := 100000) (q := 1) 48271 (by kernel_rfl) (by decide +kernel) (by kernel_rfl) ?_
    intro y14 u14
    refine fine_addG OM (n := 100000) (q := 1) (by kernel_rfl) ?_
    intro y15 u15
    refine fine_modG OM (n := 100000) (q := 5) 2147483647 (by kernel_rfl) (by decide) (by kernel_rfl) ?_
    intro y16 u16 _ _
    refine fine_divG OM (n := 100000) (q := 1) 7 (by kernel_rfl) (by decide) not_long (by kernel_rfl) ?_
    intro y17 u17
    refine fine_modG OM (n := 100000) (q := 1) 8 (by kernel_rfl) (by decide) (by kernel_rfl) ?_
    intro z2 u18 h2 k2
    refine fine_pick OM (n := 100000) (q := 1) behind1 (by kernel_rfl) (by kernel_rfl) (by kernel_rfl) z2 (by kernel_rfl) h2 8 k2 (by decide) (by decide) ?_
    intro x2 v2 m2
    refine fine_catG OM (n := 100000) (q := 1000) x1 x2 (len1 x1 m1 x2 m2) (by kernel_rfl) ?_
    intro u20 tk20
    exact fine_mid3 O t 1 (x1 ++ x2) rfl rfl rfl hkt htab (by kernel_rfl) hK (by kernel_rfl) (runs.2.1 x1 m1 x2 m2)
  · refine fine_ask OM (n := 100000) (q := 26) (by kernel_rfl) ?_
    refine fine_ask OM (n := 100000) (q := 5) (by kernel_rfl) ?_
    refine fine_mulG OM (n := 100000) (q := 1) 48271 (by kernel_rfl) (by decide +kernel) (by kernel_rfl) ?_
    intro y7 u7
    refine fine_addG OM (n := 100000) (q := 1) (by kernel_rfl) ?_
    intro y8 u8
    refine fine_modG OM (n := 100000) (q := 5) 2147483647 (by kernel_rfl) (by decide) (by kernel_rfl) ?_
    intro y9 u9 _ _
    refine fine_divG OM (n := 100000) (q := 1) 7 (by kernel_rfl) (by decide) not_long (by kernel_rfl) ?_
    intro y10 u10
    refine fine_modG OM (n := 100000) (q := 1) 10 (by kernel_rfl) (by decide) (by kernel_rfl) ?_
    intro z1 u11 h1 k1
    refine fine_pick OM (n := 100000) (q := 16) front2 (by kernel_rfl) (by kernel_rfl) (by kernel_rfl) z1 (by kernel_rfl) h1 10 k1 (by decide) (by decide) ?_
    intro x1 v1 m1
    refine fine_ask OM (n := 100000) (q := 5) (by kernel_rfl) ?_
    refine fine_mulG OM (n := 100000) (q := 1) 48271 (by kernel_rfl) (by decide +kernel) (by kernel_rfl) ?_
    intro y14 u14
    refine fine_addG OM (n := 100000) (q := 1) (by kernel_rfl) ?_
    intro y15 u15
    refine fine_modG OM (n := 100000) (q := 5) 2147483647 (by kernel_rfl) (by decide) (by kernel_rfl) ?_
    intro y16 u16 _ _
    refine fine_divG OM (n := 100000) (q := 1) 7 (by kernel_rfl) (by decide) not_long (by kernel_rfl) ?_
    intro y17 u17
    refine fine_modG OM (n := 100000) (q := 1) 6 (by kernel_rfl) (by decide) (by kernel_rfl) ?_
    intro z2 u18 h2 k2
    refine fine_pick OM (n := 100000) (q := 1) behind2 (by kernel_rfl) (by kernel_rfl) (by kernel_rfl) z2 (by kernel_rfl) h2 6 k2 (by decide) (by decide) ?_
    intro x2 v2 m2
    refine fine_catG OM (n := 100000) (q := 1000) x1 x2 (len2 x1 m1 x2 m2) (by kernel_rfl) ?_
    intro u20 tk20
    exact fine_mid3 O t 2 (x1 ++ x2) rfl rfl rfl hkt htab (by kernel_rfl) hK (by kernel_rfl) (runs.2.2.1 x1 m1 x2 m2)
  · refine fine_ask OM (n := 100000) (q := 26) (by kernel_rfl) ?_
    refine fine_ask OM (n := 100000) (q := 5) (by kernel_rfl) ?_
    refine fine_mulG OM (n := 100000) (q := 1) 48271 (by kernel_rfl) (by decide +kernel) (by kernel_rfl) ?_
    intro y7 u7
    refine fine_addG OM (n := 100000) (q := 1) (by kernel_rfl) ?_
    intro y8 u8
    refine fine_modG OM (n := 100000) (q := 5) 2147483647 (by kernel_rfl) (by decide) (by kernel_rfl) ?_
    intro y9 u9 _ _
    refine fine_divG OM (n := 100000) (q := 1) 7 (by kernel_rfl) (by decide) not_long (by kernel_rfl) ?_
    intro y10 u10
    refine fine_modG OM (n := 100000) (q := 1) 6 (by kernel_rfl) (by decide) (by kernel_rfl) ?_
    intro z1 u11 h1 k1
    refine fine_pick OM (n := 100000) (q := 16) front3 (by kernel_rfl) (by kernel_rfl) (by kernel_rfl) z1 (by kernel_rfl) h1 6 k1 (by decide) (by decide) ?_
    intro x1 v1 m1
    refine fine_ask OM (n := 100000) (q := 5) (by kernel_rfl) ?_
    refine fine_mulG OM (n := 100000) (q := 1) 48271 (by kernel_rfl) (by decide +kernel) (by kernel_rfl) ?_
    intro y14 u14
    refine fine_addG OM (n := 100000) (q := 1) (by kernel_rfl) ?_
    intro y15 u15
    refine fine_modG OM (n := 100000) (q := 5) 2147483647 (by kernel_rfl) (by decide) (by kernel_rfl) ?_
    intro y16 u16 _ _
    refine fine_divG OM (n := 100000) (q := 1) 7 (by kernel_rfl) (by decide) not_long (by kernel_rfl) ?_
    intro y17 u17
    refine fine_modG OM (n := 100000) (q := 1) 10 (by kernel_rfl) (by decide) (by kernel_rfl) ?_
    intro z2 u18 h2 k2
    refine fine_pick OM (n := 100000) (q := 1) behind3 (by kernel_rfl) (by kernel_rfl) (by kernel_rfl) z2 (by kernel_rfl) h2 10 k2 (by decide) (by decide) ?_
    intro x2 v2 m2
    refine fine_catG OM (n := 100000) (q := 1000) x1 x2 (len3 x1 m1 x2 m2) (by kernel_rfl) ?_
    intro u20 tk20
    exact fine_mid3 O t 3 (x1 ++ x2) rfl rfl rfl hkt htab (by kernel_rfl) hK (by kernel_rfl) (runs.2.2.2 x1 m1 x2 m2)

theorem pre_two (a b : Int) (ta tb : Tok) (P : Params) (t : Nat) (D : Wd) (O : Ok D (V0 P [.int a ta, .int b tb] t)) (hkt : (lay.ktop_1134 P).Holds D.h₀ 1 0) (htab : ∀ u a vs, tabAt (V2 P u) a = some vs → ∃ c, D.h₀.TableAt c a vs)
    (hK : ∀ u T m j ch h, Rep (D.xv (V2 P u)) h T m ch → postK D (konO (go (V0 P [.int a ta, .int b tb] t) 100000 2 start)) (.ok (.ret (.bool true))) (sh D (V2 P u) h j))
    (runs : AllRuns) : Fine D (V0 P [.int a ta, .int b tb] t) (go (V0 P [.int a ta, .int b tb] t) 100000 2 start) := by
  have OM := O.mid (go (V0 P [.int a ta, .int b tb] t) 100000 2 start) (lawBody.drop 4) lawEnv
  refine fine_func O (n := 100000) (q := 15) (lawBody.take 4) (lawBody.drop 4) lawEnv (by kernel_rfl) (by kernel_rfl) ?_
  refine fine_ask OM (n := 100000) (q := 12) (by kernel_rfl) ?_
  refine fine_absG OM (n := 100000) (q := 12) (by kernel_rfl) ?_
  intro y1 u1 tk1
  refine fine_addG OM (n := 100000) (q := 1) (by kernel_rfl) ?_
  intro y2 u2
  refine fine_modG OM (n := 100000) (q := 3) 2147483647 (by kernel_rfl) (by decide) (by kernel_rfl) ?_
  intro y3 u3 _ _
  refine fine_modG OM (n := 100000) (q := 3) 4 (by kernel_rfl) (by decide) (by kernel_rfl) ?_
  intro kd u4 kd0 kd1
  obtain rfl | rfl | rfl | rfl : kd = 0 ∨ kd = 1 ∨ kd = 2 ∨ kd = 3 := by omega
  · refine fine_ask OM (n := 100000) (q := 26) (by kernel_rfl) ?_
    refine fine_ask OM (n := 100000) (q := 12) (by kernel_rfl) ?_
    refine fine_absG OM (n := 100000) (q := 10) (by kernel_rfl) ?_
    intro y7 u7 tk7
    refine fine_mulG OM (n := 100000) (q := 1) 31 (by kernel_rfl) (by decide +kernel) (by kernel_rfl) ?_
    intro y8 u8
    refine fine_addG OM (n := 100000) (q := 1) (by kernel_rfl) ?_
    intro y9 u9
    refine fine_modG OM (n := 100000) (q := 3) 2147483647 (by kernel_rfl) (by decide) (by kernel_rfl) ?_
    intro y10 u10 _ _
    refine fine_modG OM (n := 100000) (q := 1) 12 (by kernel_rfl) (by decide) (by kernel_rfl) ?_
    intro z1 u11 h1 k1
    refine fine_pick OM (n := 100000) (q := 16) front0 (by kernel_rfl) (by kernel_rfl) (by kernel_rfl) z1 (by kernel_rfl) h1 12 k1 (by decide) (by decide) ?_
    intro x1 v1 m1
    refine fine_ask OM (n := 100000) (q := 5) (by kernel_rfl) ?_
    refine fine_mulG OM (n := 100000) (q := 1) 48271 (by kernel_rfl) (by decide +kernel) (by kernel_rfl) ?_
    intro y14 u14
    refine fine_addG OM (n := 100000) (q := 1) (by kernel_rfl) ?_
    intro y15 u15
    refine fine_modG OM (n := 100000) (q := 5) 2147483647 (by kernel_rfl) (by decide) (by kernel_rfl) ?_
    intro y16 u16 _ _
    refine fine_divG OM (n := 100000) (q := 1) 7 (by kernel_rfl) (by decide) not_long (by kernel_rfl) ?_
    intro y17 u17
    refine fine_modG OM (n := 100000) (q := 1) 12 (by kernel_rfl) (by decide) (by kernel_rfl) ?_
    intro z2 u18 h2 k2
    refine fine_pick OM (n := 100000) (q := 1) behind0 (by kernel_rfl) (by kernel_rfl) (by kernel_rfl) z2 (by kernel_rfl) h2 12 k2 (by decide) (by decide) ?_
    intro x2 v2 m2
    refine fine_catG OM (n := 100000) (q := 1000) x1 x2 (len0 x1 m1 x2 m2) (by kernel_rfl) ?_
    intro u20 tk20
    exact fine_mid3 O t 0 (x1 ++ x2) rfl rfl rfl hkt htab (by kernel_rfl) hK (by kernel_rfl) (runs.1 x1 m1 x2 m2)
  · refine fine_ask OM (n := 100000) (q := 26) (by kernel_rfl) ?_
    refine fine_ask OM (n := 100000) (q := 12) (by kernel_rfl) ?_
    refine fine_absG OM (n := 100000) (q := 10) (by kernel_rfl) ?_
    intro y7 u7 tk7
    refine fine_mulG OM (n := 100000) (q := 1) 31 (by kernel_rfl) (by decide +kernel) (by kernel_rfl) ?_
    intro y8 u8
    refine fine_addG OM (n := 100000) (q := 1) (by kernel_rfl) ?_
    intro y9 u9
    refine fine_modG OM (n := 100000) (q := 3) 2147483647 (by kernel_rfl) (by decide) (by kernel_rfl) ?_
    intro y10 u10 _ _
    refine fine_modG OM (n := 100000) (q := 1) 12 (by kernel_rfl) (by decide) (by kernel_rfl) ?_
    intro z1 u11 h1 k1
    refine fine_pick OM (n := 100000) (q := 16) front1 (by kernel_rfl) (by kernel_rfl) (by kernel_rfl) z1 (by kernel_rfl) h1 12 k1 (by decide) (by decide) ?_
    intro x1 v1 m1
    refine fine_ask OM (n := 100000) (q := 5) (by kernel_rfl) ?_
    refine fine_mulG OM (n := 100000) (q := 1) 48271 (by kernel_rfl) (by decide +kernel) (by kernel_rfl) ?_
    intro y14 u14
    refine fine_addG OM (n := 100000) (q := 1) (by kernel_rfl) ?_
    intro y15 u15
    refine fine_modG OM (n := 100000) (q := 5) 2147483647 (by kernel_rfl) (by decide) (by kernel_rfl) ?_
    intro y16 u16 _ _
    refine fine_divG OM (n := 100000) (q := 1) 7 (by kernel_rfl) (by decide) not_long (by kernel_rfl) ?_
    intro y17 u17
    refine fine_modG OM (n := 100000) (q := 1) 8 (by kernel_rfl) (by decide) (by kernel_rfl) ?_
    intro z2 u18 h2 k2
    refine fine_pick OM (n := 100000) (q := 1) behind1 (by kernel_rfl) (by kernel_rfl) (by kernel_rfl) z2 (by kernel_rfl) h2 8 k2 (by decide) (by decide) ?_
    intro x2 v2 m2
    refine fine_catG OM (n := 100000) (q := 1000) x1 x2 (len1 x1 m1 x2 m2) (by kernel_rfl) ?_
    intro u20 tk20
    exact fine_mid3 O t 1 (x1 ++ x2) rfl rfl rfl hkt htab (by kernel_rfl) hK (by kernel_rfl) (runs.2.1 x1 m1 x2 m2)
  · refine fine_ask OM (n := 100000) (q := 26) (by kernel_rfl) ?_
    refine fine_ask OM (n := 100000) (q := 12) (by kernel_rfl) ?_
    refine fine_absG OM (n := 100000) (q := 10) (by kernel_rfl) ?_
    intro y7 u7 tk7
    refine fine_mulG OM (n := 100000) (q := 1) 31 (by kernel_rfl) (by decide +kernel) (by kernel_rfl) ?_
    intro y8 u8
    refine fine_addG OM (n := 100000) (q := 1) (by kernel_rfl) ?_
    intro y9 u9
    refine fine_modG OM (n := 100000) (q := 3) 2147483647 (by kernel_rfl) (by decide) (by kernel_rfl) ?_
    intro y10 u10 _ _
    refine fine_modG OM (n := 100000) (q := 1) 10 (by kernel_rfl) (by decide) (by kernel_rfl) ?_
    intro z1 u11 h1 k1
    refine fine_pick OM (n := 100000) (q := 16) front2 (by kernel_rfl) (by kernel_rfl) (by kernel_rfl) z1 (by kernel_rfl) h1 10 k1 (by decide) (by decide) ?_
    intro x1 v1 m1
    refine fine_ask OM (n := 100000) (q := 5) (by kernel_rfl) ?_
    refine fine_mulG OM (n := 100000) (q := 1) 48271 (by kernel_rfl) (by decide +kernel) (by kernel_rfl) ?_
    intro y14 u14
    refine fine_addG OM (n := 100000) (q := 1) (by kernel_rfl) ?_
    intro y15 u15
    refine fine_modG OM (n := 100000) (q := 5) 2147483647 (by kernel_rfl) (by decide) (by kernel_rfl) ?_
    intro y16 u16 _ _
    refine fine_divG OM (n := 100000) (q := 1) 7 (by kernel_rfl) (by decide) not_long (by kernel_rfl) ?_
    intro y17 u17
    refine fine_modG OM (n := 100000) (q := 1) 6 (by kernel_rfl) (by decide) (by kernel_rfl) ?_
    intro z2 u18 h2 k2
    refine fine_pick OM (n := 100000) (q := 1) behind2 (by kernel_rfl) (by kernel_rfl) (by kernel_rfl) z2 (by kernel_rfl) h2 6 k2 (by decide) (by decide) ?_
    intro x2 v2 m2
    refine fine_catG OM (n := 100000) (q := 1000) x1 x2 (len2 x1 m1 x2 m2) (by kernel_rfl) ?_
    intro u20 tk20
    exact fine_mid3 O t 2 (x1 ++ x2) rfl rfl rfl hkt htab (by kernel_rfl) hK (by kernel_rfl) (runs.2.2.1 x1 m1 x2 m2)
  · refine fine_ask OM (n := 100000) (q := 26) (by kernel_rfl) ?_
    refine fine_ask OM (n := 100000) (q := 12) (by kernel_rfl) ?_
    refine fine_absG OM (n := 100000) (q := 10) (by kernel_rfl) ?_
    intro y7 u7 tk7
    refine fine_mulG OM (n := 100000) (q := 1) 31 (by kernel_rfl) (by decide +kernel) (by kernel_rfl) ?_
    intro y8 u8
    refine fine_addG OM (n := 100000) (q := 1) (by kernel_rfl) ?_
    intro y9 u9
    refine fine_modG OM (n := 100000) (q := 3) 2147483647 (by kernel_rfl) (by decide) (by kernel_rfl) ?_
    intro y10 u10 _ _
    refine fine_modG OM (n := 100000) (q := 1) 6 (by kernel_rfl) (by decide) (by kernel_rfl) ?_
    intro z1 u11 h1 k1
    refine fine_pick OM (n := 100000) (q := 16) front3 (by kernel_rfl) (by kernel_rfl) (by kernel_rfl) z1 (by kernel_rfl) h1 6 k1 (by decide) (by decide) ?_
    intro x1 v1 m1
    refine fine_ask OM (n := 100000) (q := 5) (by kernel_rfl) ?_
    refine fine_mulG OM (n := 100000) (q := 1) 48271 (by kernel_rfl) (by decide +kernel) (by kernel_rfl) ?_
    intro y14 u14
    refine fine_addG OM (n := 100000) (q := 1) (by kernel_rfl) ?_
    intro y15 u15
    refine fine_modG OM (n := 100000) (q := 5) 2147483647 (by kernel_rfl) (by decide) (by kernel_rfl) ?_
    intro y16 u16 _ _
    refine fine_divG OM (n := 100000) (q := 1) 7 (by kernel_rfl) (by decide) not_long (by kernel_rfl) ?_
    intro y17 u17
    refine fine_modG OM (n := 100000) (q := 1) 10 (by kernel_rfl) (by decide) (by kernel_rfl) ?_
    intro z2 u18 h2 k2
    refine fine_pick OM (n := 100000) (q := 1) behind3 (by kernel_rfl) (by kernel_rfl) (by kernel_rfl) z2 (by kernel_rfl) h2 10 k2 (by decide) (by decide) ?_
    intro x2 v2 m2
    refine fine_catG OM (n := 100000) (q := 1000) x1 x2 (len3 x1 m1 x2 m2) (by kernel_rfl) ?_
    intro u20 tk20
    exact fine_mid3 O t 3 (x1 ++ x2) rfl rfl rfl hkt htab (by kernel_rfl) hK (by kernel_rfl) (runs.2.2.2 x1 m1 x2 m2)

theorem pre_more (a b c : Int) (ta tb tc : Tok) (rest : List Value) (hrest : rest.length < 1000) (P : Params) (t : Nat) (D : Wd) (O : Ok D (V0 P (.int a ta :: .int b tb :: .int c tc :: rest) t)) (hkt : (lay.ktop_1134 P).Holds D.h₀ 1 0) (htab : ∀ u a vs, tabAt (V2 P u) a = some vs → ∃ c, D.h₀.TableAt c a vs)
    (hK : ∀ u T m j ch h, Rep (D.xv (V2 P u)) h T m ch → postK D (konO (go (V0 P (.int a ta :: .int b tb :: .int c tc :: rest) t) 100000 2 start)) (.ok (.ret (.bool true))) (sh D (V2 P u) h j))
    (runs : AllRuns) : Fine D (V0 P (.int a ta :: .int b tb :: .int c tc :: rest) t) (go (V0 P (.int a ta :: .int b tb :: .int c tc :: rest) t) 100000 2 start) := by
  have OM := O.mid (go (V0 P (.int a ta :: .int b tb :: .int c tc :: rest) t) 100000 2 start) (lawBody.drop 4) lawEnv
  refine fine_func O (n := 100000) (q := 1) (lawBody.take 4) (lawBody.drop 4) lawEnv (by kernel_rfl) (by kernel_rfl) ?_
  refine fine_slice OM (n := 100000) (q := 10) (.int a ta) (.int b tb) (.int c tc) rest hrest (by kernel_rfl) (by kernel_rfl) (by kernel_rfl) (by kernel_rfl) ?_
  intro r hr
  refine fine_len OM (n := 100000) (q := 0) (.int a ta :: .int b tb :: .int c tc :: r) (by kernel_rfl) (by kernel_rfl) (by kernel_rfl) (by simp; omega) ?_
  intro u1
  refine fine_ask OM (n := 100000) (q := 1) (by kernel_rfl) ?_
  refine fine_ltT OM (n := 100000) (q := 5) 0 (Int.ofNat (r.length + 3)) (by kernel_rfl) (by kernel_rfl) (by simp; omega) (by kernel_rfl) ?_
  refine fine_item OM (n := 100000) (q := 4) (.int a ta :: .int b tb :: .int c tc :: r) 0 (.int a ta) (by kernel_rfl) (by kernel_rfl) (by kernel_rfl) (by kernel_rfl) (by decide) (by decide) rfl ?_
  refine fine_absG OM (n := 100000) (q := 12) (by kernel_rfl) ?_
  intro y5 u5 tk5
  refine fine_addG OM (n := 100000) (q := 1) (by kernel_rfl) ?_
  intro y6 u6
  refine fine_modG OM (n := 100000) (q := 3) 2147483647 (by kernel_rfl) (by decide) (by kernel_rfl) ?_
  intro y7 u7 _ _
  refine fine_modG OM (n := 100000) (q := 3) 4 (by kernel_rfl) (by decide) (by kernel_rfl) ?_
  intro kd u8 kd0 kd1
  obtain rfl | rfl | rfl | rfl : kd = 0 ∨ kd = 1 ∨ kd = 2 ∨ kd = 3 := by omega
  · refine fine_ask OM (n := 100000) (q := 23) (by kernel_rfl) ?_
    refine fine_len OM (n := 100000) (q := 0) (.int a ta :: .int b tb :: .int c tc :: r) (by kernel_rfl) (by kernel_rfl) (by kernel_rfl) (by simp; omega) ?_
    intro u10
    refine fine_ask OM (n := 100000) (q := 1) (by kernel_rfl) ?_
    refine fine_ltT OM (n := 100000) (q := 5) 1 (Int.ofNat (r.length + 3)) (by kernel_rfl) (by kernel_rfl) (by simp; omega) (by kernel_rfl) ?_
    refine fine_item OM (n := 100000) (q := 4) (.int a ta :: .int b tb :: .int c tc :: r) 1 (.int b tb) (by kernel_rfl) (by kernel_rfl) (by kernel_rfl) (by kernel_rfl) (by decide) (by decide) rfl ?_
    refine fine_absG OM (n := 100000) (q := 10) (by kernel_rfl) ?_
    intro y14 u14 tk14
    refine fine_mulG OM (n := 100000) (q := 1) 31 (by kernel_rfl) (by decide +kernel) (by kernel_rfl) ?_
    intro y15 u15
    refine fine_addG OM (n := 100000) (q := 1) (by kernel_rfl) ?_
    intro y16 u16
    refine fine_modG OM (n := 100000) (q := 3) 2147483647 (by kernel_rfl) (by decide) (by kernel_rfl) ?_
    intro y17 u17 _ _
    refine fine_modG OM (n := 100000) (q := 1) 12 (by kernel_rfl) (by decide) (by kernel_rfl) ?_
    intro z1 u18 h1 k1
    refine fine_pick OM (n := 100000) (q := 13) front0 (by kernel_rfl) (by kernel_rfl) (by kernel_rfl) z1 (by kernel_rfl) h1 12 k1 (by decide) (by decide) ?_
    intro x1 v1 m1
    refine fine_len OM (n := 100000) (q := 0) (.int a ta :: .int b tb :: .int c tc :: r) (by kernel_rfl) (by kernel_rfl) (by kernel_rfl) (by simp; omega) ?_
    intro u20
    refine fine_ask OM (n := 100000) (q := 1) (by kernel_rfl) ?_
    refine fine_ltT OM (n := 100000) (q := 5) 2 (Int.ofNat (r.length + 3)) (by kernel_rfl) (by kernel_rfl) (by simp; omega) (by kernel_rfl) ?_
    refine fine_item OM (n := 100000) (q := 4) (.int a ta :: .int b tb :: .int c tc :: r) 2 (.int c tc) (by kernel_rfl) (by kernel_rfl) (by kernel_rfl) (by kernel_rfl) (by decide) (by decide) rfl ?_
    refine fine_absG OM (n := 100000) (q := 10) (by kernel_rfl) ?_
    intro y24 u24 tk24
    refine fine_mulG OM (n := 100000) (q := 1) 31 (by kernel_rfl) (by decide +kernel) (by kernel_rfl) ?_
    intro y25 u25
    refine fine_addG OM (n := 100000) (q := 1) (by kernel_rfl) ?_
    intro y26 u26
    refine fine_modG OM (n := 100000) (q := 3) 2147483647 (by kernel_rfl) (by decide) (by kernel_rfl) ?_
    intro y27 u27 _ _
    refine fine_modG OM (n := 100000) (q := 1) 12 (by kernel_rfl) (by decide) (by kernel_rfl) ?_
    intro z2 u28 h2 k2
    refine fine_pick OM (n := 100000) (q := 1) behind0 (by kernel_rfl) (by kernel_rfl) (by kernel_rfl) z2 (by kernel_rfl) h2 12 k2 (by decide) (by decide) ?_
    intro x2 v2 m2
    refine fine_catG OM (n := 100000) (q := 1000) x1 x2 (len0 x1 m1 x2 m2) (by kernel_rfl) ?_
    intro u30 tk30
    exact fine_mid3 O t 0 (x1 ++ x2) rfl rfl rfl hkt htab (by kernel_rfl) hK (by kernel_rfl) (runs.1 x1 m1 x2 m2)
  · refine fine_ask OM (n := 100000) (q := 23) (by kernel_rfl) ?_
    refine fine_len OM (n := 100000) (q := 0) (.int a ta :: .int b tb :: .int c tc :: r) (by kernel_rfl) (by kernel_rfl) (by kernel_rfl) (by simp; omega) ?_
    intro u10
    refine fine_ask OM (n := 100000) (q := 1) (by kernel_rfl) ?_
    refine fine_ltT OM (n := 100000) (q := 5) 1 (Int.ofNat (r.length + 3)) (by kernel_rfl) (by kernel_rfl) (by simp; omega) (by kernel_rfl) ?_
    refine fine_item OM (n := 100000) (q := 4) (.int a ta :: .int b tb :: .int c tc :: r) 1 (.int b tb) (by kernel_rfl) (by kernel_rfl) (by kernel_rfl) (by kernel_rfl) (by decide) (by decide) rfl ?_
    refine fine_absG OM (n := 100000) (q := 10) (by kernel_rfl) ?_
    intro y14 u14 tk14
    refine fine_mulG OM (n := 100000) (q := 1) 31 (by kernel_rfl) (by decide +kernel) (by kernel_rfl) ?_
    intro y15 u15
    refine fine_addG OM (n := 100000) (q := 1) (by kernel_rfl) ?_
    intro y16 u16
    refine fine_modG OM (n := 100000) (q := 3) 2147483647 (by kernel_rfl) (by decide) (by kernel_rfl) ?_
    intro y17 u17 _ _
    refine fine_modG OM (n := 100000) (q := 1) 12 (by kernel_rfl) (by decide) (by kernel_rfl) ?_
    intro z1 u18 h1 k1
    refine fine_pick OM (n := 100000) (q := 13) front1 (by kernel_rfl) (by kernel_rfl) (by kernel_rfl) z1 (by kernel_rfl) h1 12 k1 (by decide) (by decide) ?_
    intro x1 v1 m1
    refine fine_len OM (n := 100000) (q := 0) (.int a ta :: .int b tb :: .int c tc :: r) (by kernel_rfl) (by kernel_rfl) (by kernel_rfl) (by simp; omega) ?_
    intro u20
    refine fine_ask OM (n := 100000) (q := 1) (by kernel_rfl) ?_
    refine fine_ltT OM (n := 100000) (q := 5) 2 (Int.ofNat (r.length + 3)) (by kernel_rfl) (by kernel_rfl) (by simp; omega) (by kernel_rfl) ?_
    refine fine_item OM (n := 100000) (q := 4) (.int a ta :: .int b tb :: .int c tc :: r) 2 (.int c tc) (by kernel_rfl) (by kernel_rfl) (by kernel_rfl) (by kernel_rfl) (by decide) (by decide) rfl ?_
    refine fine_absG OM (n := 100000) (q := 10) (by kernel_rfl) ?_
    intro y24 u24 tk24
    refine fine_mulG OM (n := 100000) (q := 1) 31 (by kernel_rfl) (by decide +kernel) (by kernel_rfl) ?_
    intro y25 u25
    refine fine_addG OM (n := 100000) (q := 1) (by kernel_rfl) ?_
    intro y26 u26
    refine fine_modG OM (n := 100000) (q := 3) 2147483647 (by kernel_rfl) (by decide) (by kernel_rfl) ?_
    intro y27 u27 _ _
    refine fine_modG OM (n := 100000) (q := 1) 8 (by kernel_rfl) (by decide) (by kernel_rfl) ?_
    intro z2 u28 h2 k2
    refine fine_pick OM (n := 100000) (q := 1) behind1 (by kernel_rfl) (by kernel_rfl) (by kernel_rfl) z2 (by kernel_rfl) h2 8 k2 (by decide) (by decide) ?_
    intro x2 v2 m2
    refine fine_catG OM (n := 100000) (q := 1000) x1 x2 (len1 x1 m1 x2 m2) (by kernel_rfl) ?_
    intro u30 tk30
    exact fine_mid3 O t 1 (x1 ++ x2) rfl rfl rfl hkt htab (by kernel_rfl) hK (by kernel_rfl) (runs.2.1 x1 m1 x2 m2)
  · refine fine_ask OM (n := 100000) (q := 23) (by kernel_rfl) ?_
    refine fine_len OM (n := 100000) (q := 0) (.int a ta :: .int b tb :: .int c tc :: r) (by kernel_rfl) (by kernel_rfl) (by kernel_rfl) (by simp; omega) ?_
    intro u10
    refine fine_ask OM (n := 100000) (q := 1) (by kernel_rfl) ?_
    refine fine_ltT OM (n := 100000) (q := 5) 1 (Int.ofNat (r.length + 3)) (by kernel_rfl) (by kernel_rfl) (by simp; omega) (by kernel_rfl) ?_
    refine fine_item OM (n := 100000) (q := 4) (.int a ta :: .int b tb :: .int c tc :: r) 1 (.int b tb) (by kernel_rfl) (by kernel_rfl) (by kernel_rfl) (by kernel_rfl) (by decide) (by decide) rfl ?_
    refine fine_absG OM (n := 100000) (q := 10) (by kernel_rfl) ?_
    intro y14 u14 tk14
    refine fine_mulG OM (n := 100000) (q := 1) 31 (by kernel_rfl) (by decide +kernel) (by kernel_rfl) ?_
    intro y15 u15
    refine fine_addG OM (n := 100000) (q := 1) (by kernel_rfl) ?_
    intro y16 u16
    refine fine_modG OM (n := 100000) (q := 3) 2147483647 (by kernel_rfl) (by decide) (by kernel_rfl) ?_
    intro y17 u17 _ _
    refine fine_modG OM (n := 100000) (q := 1) 10 (by kernel_rfl) (by decide) (by kernel_rfl) ?_
    intro z1 u18 h1 k1
    refine fine_pick OM (n := 100000) (q := 13) front2 (by kernel_rfl) (by kernel_rfl) (by kernel_rfl) z1 (by kernel_rfl) h1 10 k1 (by decide) (by decide) ?_
    intro x1 v1 m1
    refine fine_len OM (n := 100000) (q := 0) (.int a ta :: .int b tb :: .int c tc :: r) (by kernel_rfl) (by kernel_rfl) (by kernel_rfl) (by simp; omega) ?_
    intro u20
    refine fine_ask OM (n := 100000) (q := 1) (by kernel_rfl) ?_
    refine fine_ltT OM (n := 100000) (q := 5) 2 (Int.ofNat (r.length + 3)) (by kernel_rfl) (by kernel_rfl) (by simp; omega) (by kernel_rfl) ?_
    refine fine_item OM (n := 100000) (q := 4) (.int a ta :: .int b tb :: .int c tc :: r) 2 (.int c tc) (by kernel_rfl) (by kernel_rfl) (by kernel_rfl) (by kernel_rfl) (by decide) (by decide) rfl ?_
    refine fine_absG OM (n := 100000) (q := 10) (by kernel_rfl) ?_
    intro y24 u24 tk24
    refine fine_mulG OM (n := 100000) (q := 1) 31 (by kernel_rfl) (by decide +kernel) (by kernel_rfl) ?_
    intro y25 u25
    refine fine_addG OM (n := 100000) (q := 1) (by kernel_rfl) ?_
    intro y26 u26
    refine fine_modG OM (n := 100000) (q := 3) 2147483647 (by kernel_rfl) (by decide) (by kernel_rfl) ?_
    intro y27 u27 _ _
    refine fine_modG OM (n := 100000) (q := 1) 6 (by kernel_rfl) (by decide) (by kernel_rfl) ?_
    intro z2 u28 h2 k2
    refine fine_pick OM (n := 100000) (q := 1) behind2 (by kernel_rfl) (by kernel_rfl) (by kernel_rfl) z2 (by kernel_rfl) h2 6 k2 (by decide) (by decide) ?_
    intro x2 v2 m2
    refine fine_catG OM (n := 100000) (q := 1000) x1 x2 (len2 x1 m1 x2 m2) (by kernel_rfl) ?_
    intro u30 tk30
    exact fine_mid3 O t 2 (x1 ++ x2) rfl rfl rfl hkt htab (by kernel_rfl) hK (by kernel_rfl) (runs.2.2.1 x1 m1 x2 m2)
  · refine fine_ask OM (n := 100000) (q := 23) (by kernel_rfl) ?_
    refine fine_len OM (n := 100000) (q := 0) (.int a ta :: .int b tb :: .int c tc :: r) (by kernel_rfl) (by kernel_rfl) (by kernel_rfl) (by simp; omega) ?_
    intro u10
    refine fine_ask OM (n := 100000) (q := 1) (by kernel_rfl) ?_
    refine fine_ltT OM (n := 100000) (q := 5) 1 (Int.ofNat (r.length + 3)) (by kernel_rfl) (by kernel_rfl) (by simp; omega) (by kernel_rfl) ?_
    refine fine_item OM (n := 100000) (q := 4) (.int a ta :: .int b tb :: .int c tc :: r) 1 (.int b tb) (by kernel_rfl) (by kernel_rfl) (by kernel_rfl) (by kernel_rfl) (by decide) (by decide) rfl ?_
    refine fine_absG OM (n := 100000) (q := 10) (by kernel_rfl) ?_
    intro y14 u14 tk14
    refine fine_mulG OM (n := 100000) (q := 1) 31 (by kernel_rfl) (by decide +kernel) (by kernel_rfl) ?_
    intro y15 u15
    refine fine_addG OM (n := 100000) (q := 1) (by kernel_rfl) ?_
    intro y16 u16
    refine fine_modG OM (n := 100000) (q := 3) 2147483647 (by kernel_rfl) (by decide) (by kernel_rfl) ?_
    intro y17 u17 _ _
    refine fine_modG OM (n := 100000) (q := 1) 6 (by kernel_rfl) (by decide) (by kernel_rfl) ?_
    intro z1 u18 h1 k1
    refine fine_pick OM (n := 100000) (q := 13) front3 (by kernel_rfl) (by kernel_rfl) (by kernel_rfl) z1 (by kernel_rfl) h1 6 k1 (by decide) (by decide) ?_
    intro x1 v1 m1
    refine fine_len OM (n := 100000) (q := 0) (.int a ta :: .int b tb :: .int c tc :: r) (by kernel_rfl) (by kernel_rfl) (by kernel_rfl) (by simp; omega) ?_
    intro u20
    refine fine_ask OM (n := 100000) (q := 1) (by kernel_rfl) ?_
    refine fine_ltT OM (n := 100000) (q := 5) 2 (Int.ofNat (r.length + 3)) (by kernel_rfl) (by kernel_rfl) (by simp; omega) (by kernel_rfl) ?_
    refine fine_item OM (n := 100000) (q := 4) (.int a ta :: .int b tb :: .int c tc :: r) 2 (.int c tc) (by kernel_rfl) (by kernel_rfl) (by kernel_rfl) (by kernel_rfl) (by decide) (by decide) rfl ?_
    refine fine_absG OM (n := 100000) (q := 10) (by kernel_rfl) ?_
    intro y24 u24 tk24
    refine fine_mulG OM (n := 100000) (q := 1) 31 (by kernel_rfl) (by decide +kernel) (by kernel_rfl) ?_
    intro y25 u25
    refine fine_addG OM (n := 100000) (q := 1) (by kernel_rfl) ?_
    intro y26 u26
    refine fine_modG OM (n := 100000) (q := 3) 2147483647 (by kernel_rfl) (by decide) (by kernel_rfl) ?_
    intro y27 u27 _ _
    refine fine_modG OM (n := 100000) (q := 1) 10 (by kernel_rfl) (by decide) (by kernel_rfl) ?_
    intro z2 u28 h2 k2
    refine fine_pick OM (n := 100000) (q := 1) behind3 (by kernel_rfl) (by kernel_rfl) (by kernel_rfl) z2 (by kernel_rfl) h2 10 k2 (by decide) (by decide) ?_
    intro x2 v2 m2
    refine fine_catG OM (n := 100000) (q := 1000) x1 x2 (len3 x1 m1 x2 m2) (by kernel_rfl) ?_
    intro u30 tk30
    exact fine_mid3 O t 3 (x1 ++ x2) rfl rfl rfl hkt htab (by kernel_rfl) hK (by kernel_rfl) (runs.2.2.2 x1 m1 x2 m2)

end Mine

-- Core
set_option maxRecDepth 1000000
set_option maxHeartbeats 0
open PySem PySem.W PySem.W.X PyProof.Rows
namespace Mine
def isCodeFor (x : Option Obj) (q : Nat) : Bool := match x with
  | some ⟨.type "code", _, .fields vs, _⟩ => match vs[11]? with
    | some (Value.ref p) => Nat.beq p q
    | _ => false
  | _ => false
theorem isCodeFor_eq {x : Option Obj} {q : Nat} (h : isCodeFor x q = true) : ∃ o vs, x = some o ∧ o.cls = .type "code" ∧ o.data = .fields vs ∧ vs[11]? = some (.ref q) := by
  unfold isCodeFor at h
  split at h
  · rename_i d vs sl
    split at h
    · rename_i p e
      exact ⟨_, vs, rfl, rfl, rfl, by rw [e, Nat.eq_of_beq_eq_true h]⟩
    · cases h
  · cases h
def tabsGood (kt : KT) : List (Nat × Nat) → Bool
  | [] => true
  | p :: l => isCodeFor (kt.get p.2) p.1 && tabsGood kt l
theorem memN_get {kt : KT} : ∀ {l : List (Nat × Nat)} {a : Nat}, tabsGood kt l = true → memN l a = true → ∃ c, isCodeFor (kt.get c) a = true
  | [], _, _, h => by cases h
  | p :: l, a, g, h => by
    have g : (isCodeFor (kt.get p.2) p.1 && tabsGood kt l) = true := g
    rw [Bool.and_eq_true] at g
    have h : (match Nat.beq p.1 a with | true => true | false => memN l a) = true := h
    cases e : Nat.beq p.1 a with
    | true => exact ⟨p.2, Nat.eq_of_beq_eq_true e ▸ g.1⟩
    | false => rw [e] at h; exact memN_get g.2 h
theorem tabs_of {h : Heap} {V : St} (H : KT.Holds h 1 0 V.kt) (g : tabsGood V.kt V.tabs = true) (a : Addr) (vs : Array Value) (e : tabAt V a = some vs) : ∃ c, h.TableAt c a vs := by
  unfold tabAt at e
  cases m : memN V.tabs a with
  | false => rw [m] at e; cases e
  | true =>
    rw [m] at e
    have e : @Option.rec Obj (fun _ => Option (Array Value)) none (fun o => tabOf o) (V.kt.get a) = some vs := e
    cases k : V.kt.get a with
    | none => rw [k] at e; cases e
    | some o =>
      rw [k] at e
      have e : tabOf o = some vs := e
      obtain ⟨c, hc⟩ := memN_get g m
      obtain ⟨oc, us, e1, e2, e3, e4⟩ := isCodeFor_eq hc
      exact ⟨c, ⟨oc, us, kt_at H e1, e2, e3, e4⟩, by rw [kt_at H k, tabOf_eq e]; rfl⟩
theorem tabs_mid (P : Params) (u : Nat) : tabsGood (V2 P u).kt (V2 P u).tabs = true := by kernel_rfl
theorem tabs_pre (P : Params) (xs : List Value) (t : Nat) : tabsGood (V0 P xs t).kt (V0 P xs t).tabs = true := by kernel_rfl
theorem kon_true (P : Params) (vs : List Value) (t u : Nat) (T : BT) (m j : Nat) (ch : Ch) :
    endsTrue (retE (ev (V2 P u) 1000) 1000 (konO (go (V0 P vs t) 100000 2 start)) (.ok (.ret (.bool true))) T m j ch) = true := by kernel_rfl
theorem walk_core (runs : AllRuns) (nil : RunOk 3 ⟨#[45, 55]⟩) (w : World) (s₁ : Shared) (vs : List Value) (ns : List Int) (hg : s₁.gens = #[]) (hsz : s₁.heap.objs.size = 606) (htk : 1527 ≤ s₁.toks)
    (ZH : KT.Holds s₁.heap 1 0 (lay.ktop_1134 w.params)) (hobj : s₁.heap.get? 605 = some { cls := .type "list", data := .seq vs.toArray }) (hi : IntsAre vs ns) (hb : vs.length < 1000)
    (Q E : Value → Shared → Prop)
    (hq : ∀ (V : XV) (_ : V.Ok) T m ch h i, V.h₀ = s₁.heap → Rep V h T m ch → Q (.bool true) ⟨h, #[], s₁.drawn, i, s₁.os⟩) :
    FromCaller (model PySem.Challenge.pw_bl0006_01 w) (PySem.call (.ref 604) [.ref 605]) Q E s₁ := by
  obtain ⟨h, g, d, tk, os⟩ := s₁
  have hg : g = #[] := hg
  subst hg
  obtain ⟨t, rfl⟩ : ∃ u, tk = u + 1527 := ⟨tk - 1527, by have : 1527 ≤ tk := htk; omega⟩
  let D : Wd := ⟨PySem.Challenge.pw_bl0006_01, w, h, d, os, fun r s' => match r with
    | .ok (.ret v) => Q v s'
    | .ok _ => False
    | .error e => E e s'⟩
  have HP : KT.Holds h 1 0 (V0 w.params vs t).kt := KT.Holds.put 40 ZH (by rw [Nat.one_mul, Nat.add_zero]; exact hobj)
  have O : Ok D (V0 w.params vs t) := ⟨rfl, hsz, HP, tabs_of HP (tabs_pre _ _ _)⟩
  have htab : ∀ u a vs, tabAt (V2 w.params u) a = some vs → ∃ c, D.h₀.TableAt c a vs := fun u a vs e => tabs_of (V := V2 w.params u) ZH (tabs_mid _ _) a vs e
  have hK : ∀ u T m j ch h', Rep (D.xv (V2 w.params u)) h' T m ch → postK D (konO (go (V0 w.params vs t) 100000 2 start)) (.ok (.ret (.bool true))) (sh D (V2 w.params u) h' j) := by
    intro u T m j ch h' R
    have O2 : Ok D (V2 w.params u) := ⟨rfl, hsz, ZH, htab u⟩
    refine ret_good O2 (n := 1000) (q := 1000) (good_true (kon_true w.params vs t u T m j ch) ?_) R
    intro T' m' i' ch' h2 R2
    exact hq (D.xv (V2 w.params u)) O2.xv T' m' ch' h2 _ rfl R2
  have F : Fine D (V0 w.params vs t) (go (V0 w.params vs t) 100000 2 start) := by
    cases hi with
    | nil => exact pre_nil w.params t D O ZH htab hK nil
    | cons a ta r1 =>
      cases r1 with
      | nil => exact pre_one a ta w.params t D O ZH htab hK runs
      | cons b tb r2 =>
        cases r2 with
        | nil => exact pre_two a b ta tb w.params t D O ZH htab hK runs
        | cons c tc r3 => exact pre_more a b c ta tb tc _ (by simp at hb; omega) w.params t D O ZH htab hK runs
  have F : Fine D (V0 w.params vs t) start := fine_go O F
  have z : Wk D callerΓ default [] (do ret (← PySem.call (.ref 604) [.ref 605])) (sh D (V0 w.params vs t) h 0) := F.is h (Rep.start O.xv)
  unfold Wk at z
  rw [Sem.wp_bind'] at z
  exact z
end Mine

-- Par
set_option maxRecDepth 1000000
set_option maxHeartbeats 0
open PySem PySem.W PySem.W.X
namespace Mine
/-- `Parameters(None)` -/
def parCode : Code := .call (.ref 296) ⟨[.none], []⟩
/-- n objects laid on -/
noncomputable def insG (n : Nat) (T : BT) (m : Nat) (g : Nat → Obj) : BT := @Nat.rec (fun _ => BT) T (fun k T' => T'.ins (Nat.add m k) (g k)) n
noncomputable def densT (n : Nat) (o : Nat → Obj) : BT := insG n .nil 0 o
def objIn (T : BT) (j : Nat) : Obj := (T.get j).getD { cls := .none }
def refOf : Value → Addr
  | .ref a => a
  | _ => 0
/-- the callers of `Parameters(None)` -/
def parΓ (b : Nat → List Stmt) (e : Nat → Env) (a : Args) (p : Nat → Pos) : Ctx :=
  ⟨parCode, none, none, [(.func (b 0) (e 0), p 0), (.builtin "type.__call__" ⟨.ref (refOf (a.pos.headD .none)) :: a.pos.tail, a.kw⟩, p 1), (.func (b 2) (e 2), p 2), (.func (b 3) (e 3), p 3), (.func (b 4) (e 4), p 4), (.builtin "claim.caller" {}, p 5)], none⟩
def bodyOf (l : List (Code × Pos)) (j : Nat) : List Stmt := match l.getD j (parCode, default) with
  | (.func b _, _) => b
  | _ => []
def envOf (l : List (Code × Pos)) (j : Nat) : Env := match l.getD j (parCode, default) with
  | (.func _ e, _) => e
  | _ => lawEnv
def posOf (l : List (Code × Pos)) (j : Nat) : Pos := (l.getD j (parCode, default)).2
def argsAt (l : List (Code × Pos)) (j : Nat) : Args := match l.getD j (parCode, default) with
  | (.builtin _ a, _) => a
  | _ => {}
def parΓl (l : List (Code × Pos)) : Ctx := parΓ (bodyOf l) (envOf l) (argsAt l 1) (posOf l)
noncomputable def callG (o : Out) : Ctx :=
  @Out.rec (fun _ => Ctx) (fun _ _ _ _ _ => callerΓ) (fun _ _ _ _ _ _ _ _ => callerΓ) (fun _ _ _ _ _ _ _ _ => callerΓ)
    (fun Γ p _ c hd _ _ _ _ _ _ _ => Γ.enter c hd p) (fun _ _ _ _ _ _ _ _ => callerΓ) (fun _ _ => callerΓ) o
noncomputable def parStart (M i : Nat) (o : Nat → Obj) (Γ : Ctx) (p : Pos) : Out := .fuel Γ p [] (den parCode) (densT M o) M i []
noncomputable def parEnd (M i : Nat) (o g : Nat → Obj) : Out := .done (.ok (.ret (.ref (607 + M)))) (insG 48 (densT M o) M g) (M + 48) (i + 21) []
def ParOk (M : Nat) : Prop := ∀ (P : Params) (t i : Nat) (o : Nat → Obj) (b : Nat → List Stmt) (e : Nat → Env) (a : Args) (p : Nat → Pos) (p' : Pos) (D : Wd), Ok D (V2 P t) →
  (∀ g : Nat → Obj, Fine D (V2 P t) (parEnd M i o g)) → Fine D (V2 P t) (parStart M i o (parΓ b e a p) p')
noncomputable def endT (o : Out) : BT :=
  @Out.rec (fun _ => BT) (fun _ T _ _ _ => T) (fun _ _ _ _ _ _ _ _ => .nil) (fun _ _ _ _ _ _ _ _ => .nil) (fun _ _ _ _ _ _ _ _ T _ _ _ => T) (fun _ _ _ _ _ _ _ _ => .nil) (fun _ _ => .nil) o
noncomputable def callC (o : Out) : Code :=
  @Out.rec (fun _ => Code) (fun _ _ _ _ _ => .builtin "" {}) (fun _ _ _ _ _ _ _ _ => .builtin "" {}) (fun _ _ _ _ _ _ _ _ => .builtin "" {})
    (fun _ _ _ c _ _ _ _ _ _ _ _ => c) (fun _ _ _ _ _ _ _ _ => .builtin "" {}) (fun _ _ => .builtin "" {}) o
noncomputable def callM (o : Out) : Nat :=
  @Out.rec (fun _ => Nat) (fun _ _ _ _ _ => 0) (fun _ _ _ _ _ _ _ _ => 0) (fun _ _ _ _ _ _ _ _ => 0) (fun _ _ _ _ _ _ _ _ _ m _ _ => m) (fun _ _ _ _ _ _ _ _ => 0) (fun _ _ => 0) o
noncomputable def callH (o : Out) : Ch :=
  @Out.rec (fun _ => Ch) (fun _ _ _ _ _ => []) (fun _ _ _ _ _ _ _ _ => []) (fun _ _ _ _ _ _ _ _ => []) (fun _ _ _ _ _ _ _ _ _ _ _ ch => ch) (fun _ _ _ _ _ _ _ _ => []) (fun _ _ => []) o
/-- go on behind the call; 48 objects and 21 tokens are new -/
noncomputable def behindG (V : St) (n q : Nat) (o : Out) (g : Nat → Obj) : Out :=
  @Out.rec (fun _ => Out) (fun _ _ _ _ _ => .stuck 58 0) (fun _ _ _ _ _ _ _ _ => .stuck 58 1) (fun _ _ _ _ _ _ _ _ => .stuck 58 2)
    (fun Γ p κ _ _ _ _ k T m i _ => ev V n q Γ p κ (k (.ok (.ret (.ref (607 + m))))) (insG 48 T m g) (m + 48) (i + 21) [])
    (fun _ _ _ _ _ _ _ _ => .stuck 58 3) (fun a b => .stuck a b) o
theorem fine_par {D : Wd} {P : Params} {t : Nat} (O : Ok D (V2 P t)) {o : Out} {n q : Nat} (M : Nat) (hM : ParOk M) (hc : callC o = parCode) (hm : callM o = M) (hh : callH o = []) (hG : callG o = parΓl (callG o).below) (hT : endT o = densT M (objIn (endT o)))
    (H : ∀ g : Nat → Obj, Fine D (V2 P t) (behindG (V2 P t) n q o g)) : Fine D (V2 P t) o := by
  cases o with
  | call Γ p κ c hd gg l k T m i ch =>
    have hc1 : c = parCode := hc
    have hm1 : m = M := hm
    have hh1 : ch = [] := hh
    have hT1 : T = densT M (objIn T) := hT
    have H1 : ∀ g : Nat → Obj, Fine D (V2 P t) (ev (V2 P t) n q Γ p κ (k (.ok (.ret (.ref (607 + m))))) (insG 48 T m g) (m + 48) (i + 21) []) := H
    have hG1 : Γ.enter c hd p = parΓl (Γ.enter c hd p).below := hG
    clear hc hm hh hG hT H
    subst hc1 hm1 hh1
    let DK : Wd := { D with R := postK D (⟨Γ, p, k⟩ :: κ) }
    have OK : Ok DK (V2 P t) := ⟨O.set, O.size, O.kt, O.tabs⟩
    refine ⟨fun h R => wk_call ?_⟩
    have z := (hM P t i (objIn T) (bodyOf (Γ.enter parCode hd p).below) (envOf (Γ.enter parCode hd p).below) (argsAt (Γ.enter parCode hd p).below 1) (posOf (Γ.enter parCode hd p).below) p DK OK (fun g => ⟨fun h2 R2 => ?_⟩)).is
    · have z : Fine DK (V2 P t) (parStart m i (objIn T) (parΓl (Γ.enter parCode hd p).below) p) := ⟨z⟩
      rw [← hG1] at z
      have z := z.is
      have z : ∀ h, Rep (DK.xv (V2 P t)) h (densT m (objIn T)) m [] → Wk DK (Γ.enter parCode hd p) p [] (den parCode) (sh DK (V2 P t) h i) := z
      have R1 : Rep (DK.xv (V2 P t)) h T m [] := ⟨R.size, R.own, R.keep, R.ch⟩
      rw [hT1] at R1
      exact z h R1
    · have z := (H1 g).is
      rw [hT1] at z
      exact ev_sound O n q Γ p κ _ _ _ _ _ z h2 ⟨R2.size, R2.own, R2.keep, R2.ch⟩
  | _ => cases hc
theorem fine_parEnd {D : Wd} {V : St} {o' : Out} {M i : Nat} {o : Nat → Obj} (e : o' = parEnd M i o (fun j => objIn (endT o') (M + j))) (H : ∀ g, Fine D V (parEnd M i o g)) : Fine D V o' := e ▸ H _
end Mine

-- Row3
set_option maxRecDepth 100000
open PySem PySem.W PySem.W.X
namespace Mine
/-- what stands behind a new token -/
noncomputable def freshK (t : Sem PySem.Fin) : Tok → Sem PySem.Fin :=
  @Sem.rec PySem.Fin (fun _ => Tok → Sem PySem.Fin) (fun _ _ => .raise .none) (fun _ _ => .raise .none) (fun _ _ => .raise .none) (fun _ _ => .raise .none) (fun _ _ _ _ => .raise .none) (fun _ _ _ _ => .raise .none) (fun _ _ _ _ _ => .raise .none)
      (fun _ _ _ _ _ _ => .raise .none) (fun _ _ _ _ => .raise .none) (fun _ _ _ _ => .raise .none) (fun _ _ _ _ => .raise .none) (fun _ _ _ _ => .raise .none) (fun k _ => k) (fun _ _ _ => .raise .none) (fun _ _ _ _ _ => .raise .none)
      (fun _ _ _ _ _ => .raise .none) (fun _ _ _ _ _ _ _ => .raise .none) (fun _ _ _ _ => .raise .none) (fun _ _ _ _ => .raise .none) (fun _ _ _ _ => .raise .none) (fun _ _ _ _ _ _ => .raise .none) (fun _ _ _ _ _ _ => .raise .none)
      (fun _ _ _ => .raise .none) (fun _ _ _ _ => .raise .none) (fun _ _ _ => .raise .none) (fun _ _ _ _ _ _ _ => .raise .none) t
noncomputable def isFresh (t : Sem PySem.Fin) : Bool :=
  @Sem.rec PySem.Fin (fun _ => Bool) (fun _ => false) (fun _ => false) (fun _ => false) (fun _ => false) (fun _ _ _ => false) (fun _ _ _ => false) (fun _ _ _ _ => false)
      (fun _ _ _ _ _ => false) (fun _ _ _ => false) (fun _ _ _ => false) (fun _ _ _ => false) (fun _ _ _ => false) (fun _ _ => true) (fun _ _ => false) (fun _ _ _ _ => false)
      (fun _ _ _ _ => false) (fun _ _ _ _ _ _ => false) (fun _ _ _ => false) (fun _ _ _ => false) (fun _ _ _ => false) (fun _ _ _ _ _ => false) (fun _ _ _ _ _ => false)
      (fun _ _ => false) (fun _ _ _ => false) (fun _ _ => false) (fun _ _ _ _ _ _ => false) t
theorem freshK_eq {t : Sem PySem.Fin} (h : isFresh t = true) : t = .fresh (freshK t) := by
  cases t <;> first | rfl | cases h
/-- a tree, its head forced -/
noncomputable def forced (t : Sem PySem.Fin) : Sem PySem.Fin := @Sem.rec PySem.Fin (fun _ => Sem PySem.Fin) (fun a => .pure a) (fun e => .raise e) (fun w => .unsupported w) (fun e => .finish e) (fun t k _ => .rule t k) (fun p k _ => .at p k) (fun a p k _ => .load a p k)
      (fun a p f k _ => .update a p f k) (fun o k _ => .alloc o k) (fun a k _ => .loadIfAlive a k) (fun l k _ => .point l k) (fun a k _ => .register a k) (fun k _ => .fresh k) (fun k _ => .ask k) (fun s n k _ => .choose s n k)
      (fun q l k _ => .os q l k) (fun c h g l k _ => .call c h g l k) (fun o k _ => .handled o k) (fun c k _ => .newGen c k) (fun g k _ => .genState g k) (fun g r l k _ => .resume g r l k) (fun v g l k _ => .yield v g l k)
      (fun k _ => .stack k) (fun c k _ => .fork c k) (fun k _ => .thread k) (fun a t d l k _ => .await a t d l k) t
theorem forced_eq (t : Sem PySem.Fin) : forced t = t := forced_id t
noncomputable def goK (V : St) (n q : Nat) (o : Out) (t : Sem PySem.Fin) (tk : Nat) : Out :=
  @Out.rec (fun _ => Out) (fun _ _ _ _ _ => .stuck 59 0) (fun _ _ _ _ _ _ _ _ => .stuck 59 1) (fun Γ p κ _ T m i ch => ev V n q Γ p κ t T m (i + tk) ch)
    (fun _ _ _ _ _ _ _ _ _ _ _ _ => .stuck 59 2) (fun _ _ _ _ _ _ _ _ => .stuck 59 3) (fun a b => .stuck a b) o
section
variable {D : Wd} {V : St}
/-- an ask of the third row: one way makes one more token; both meet behind the last one -/
theorem fine_tok (O : Ok D V) {n q : Nat} {o : Out} (e1 : isFresh (askTree o (withRow3 V.set false)) = true) (e2 : isFresh (askTree o (withRow3 V.set true)) = true)
    (e3 : ∀ a, isFresh (freshK (askTree o (withRow3 V.set true)) a) = true)
    (e4 : ∀ a u, @Sem.rec PySem.Fin (fun _ => Sem PySem.Fin) (fun a => .pure a) (fun e => .raise e) (fun w => .unsupported w) (fun e => .finish e) (fun t k _ => .rule t k) (fun p k _ => .at p k) (fun a p k _ => .load a p k)
      (fun a p f k _ => .update a p f k) (fun o k _ => .alloc o k) (fun a k _ => .loadIfAlive a k) (fun l k _ => .point l k) (fun a k _ => .register a k) (fun k _ => .fresh k) (fun k _ => .ask k) (fun s n k _ => .choose s n k)
      (fun q l k _ => .os q l k) (fun c h g l k _ => .call c h g l k) (fun o k _ => .handled o k) (fun c k _ => .newGen c k) (fun g k _ => .genState g k) (fun g r l k _ => .resume g r l k) (fun v g l k _ => .yield v g l k)
      (fun k _ => .stack k) (fun c k _ => .fork c k) (fun k _ => .thread k) (fun a t d l k _ => .await a t d l k) (freshK (freshK (askTree o (withRow3 V.set true)) a) u) =
      @Sem.rec PySem.Fin (fun _ => Sem PySem.Fin) (fun a => .pure a) (fun e => .raise e) (fun w => .unsupported w) (fun e => .finish e) (fun t k _ => .rule t k) (fun p k _ => .at p k) (fun a p k _ => .load a p k)
      (fun a p f k _ => .update a p f k) (fun o k _ => .alloc o k) (fun a k _ => .loadIfAlive a k) (fun l k _ => .point l k) (fun a k _ => .register a k) (fun k _ => .fresh k) (fun k _ => .ask k) (fun s n k _ => .choose s n k)
      (fun q l k _ => .os q l k) (fun c h g l k _ => .call c h g l k) (fun o k _ => .handled o k) (fun c k _ => .newGen c k) (fun g k _ => .genState g k) (fun g r l k _ => .resume g r l k) (fun v g l k _ => .yield v g l k)
      (fun k _ => .stack k) (fun c k _ => .fork c k) (fun k _ => .thread k) (fun a t d l k _ => .await a t d l k) (freshK (askTree o (withRow3 V.set false)) u))
    (H : ∀ u tk, Fine D V (goK V n q o (freshK (askTree o (withRow3 V.set false)) u) tk)) : Fine D V o := by
  cases o with
  | ask Γ p κ k T m i ch =>
    refine ⟨fun h R => ?_⟩
    have e1 : k (withRow3 V.set false) = .fresh (freshK (k (withRow3 V.set false))) := freshK_eq e1
    have e2 : k (withRow3 V.set true) = .fresh (freshK (k (withRow3 V.set true))) := freshK_eq e2
    have e3 : ∀ a, freshK (k (withRow3 V.set true)) a = .fresh (freshK (freshK (k (withRow3 V.set true)) a)) := fun a => freshK_eq (e3 a)
    have e4 : ∀ a u, freshK (freshK (k (withRow3 V.set true)) a) u = freshK (k (withRow3 V.set false)) u := fun a u => by
      have z := e4 a u
      rw [forced_id, forced_id] at z
      exact z
    have es := withRow3_self V.set
    have key : ∀ u tk, Wk D Γ p κ (freshK (k (withRow3 V.set false)) u) (sh D V h (i + tk)) := fun u tk => ev_sound O _ _ _ _ _ _ _ _ _ _ (H u tk).is h R
    show Wk D Γ p κ (k ⟨D.prog, D.w.params⟩) (sh D V h i)
    rw [← O.set, ← es]
    cases V.set.params.followText row3 with
    | true =>
      rw [e2]
      show Wk D Γ p κ (freshK (k (withRow3 V.set true)) (V.t₀ + i)) (sh D V h (i + 1))
      rw [e3]
      show Wk D Γ p κ (freshK (freshK (k (withRow3 V.set true)) (V.t₀ + i)) (V.t₀ + (i + 1))) (sh D V h (i + 2))
      rw [e4]
      exact key _ 2
    | false =>
      rw [e1]
      exact key (V.t₀ + i) 1
  | _ => cases e1
end
end Mine

-- Pars
set_option maxRecDepth 1000000
set_option maxHeartbeats 0
open PySem PySem.W PySem.W.X
namespace Mine
theorem pars : ParOk 22 ∧ ParOk 29 ∧ ParOk 31 ∧ ParOk 33 ∧ ParOk 34 ∧ ParOk 35 ∧ ParOk 37 ∧ ParOk 38 ∧ ParOk 55 ∧ ParOk 57 := by
  refine ⟨?_, ?_, ?_, ?_, ?_, ?_, ?_, ?_, ?_, ?_⟩
  · intro P t i o b e a p p' D O H
    refine fine_go O (n := 100000) (q := 24) ?_
    refine fine_ask O (n := 100000) (q := 5) (by kernel_rfl) ?_
    refine fine_ask O (n := 100000) (q := 2) (by kernel_rfl) ?_
    refine fine_call O (n := 100000) (n' := 100000) (q := 54) (fun b c => by cases b <;> cases c <;> kernel_rfl) ?_
    refine fine_ask O (n := 100000) (q := 16) (by kernel_rfl) ?_
    refine fine_ask O (n := 100000) (q := 3) (by kernel_rfl) ?_
    refine fine_ask O (n := 100000) (q := 12) (by kernel_rfl) ?_
    refine fine_ask O (n := 100000) (q := 1000) (by kernel_rfl) ?_
    exact fine_parEnd (by kernel_rfl) H
  · intro P t i o b e a p p' D O H
    refine fine_go O (n := 100000) (q := 24) ?_
    refine fine_ask O (n := 100000) (q := 5) (by kernel_rfl) ?_
    refine fine_ask O (n := 100000) (q := 2) (by kernel_rfl) ?_
    refine fine_call O (n := 100000) (n' := 100000) (q := 54) (fun b c => by cases b <;> cases c <;> kernel_rfl) ?_
    refine fine_ask O (n := 100000) (q := 16) (by kernel_rfl) ?_
    refine fine_ask O (n := 100000) (q := 3) (by kernel_rfl) ?_
    refine fine_ask O (n := 100000) (q := 12) (by kernel_rfl) ?_
    refine fine_ask O (n := 100000) (q := 1000) (by kernel_rfl) ?_
    exact fine_parEnd (by kernel_rfl) H
  · intro P t i o b e a p p' D O H
    refine fine_go O (n := 100000) (q := 24) ?_
    refine fine_ask O (n := 100000) (q := 5) (by kernel_rfl) ?_
    refine fine_ask O (n := 100000) (q := 2) (by kernel_rfl) ?_
    refine fine_call O (n := 100000) (n' := 100000) (q := 54) (fun b c => by cases b <;> cases c <;> kernel_rfl) ?_
    refine fine_ask O (n := 100000) (q := 16) (by kernel_rfl) ?_
    refine fine_ask O (n := 100000) (q := 3) (by kernel_rfl) ?_
    refine fine_ask O (n := 100000) (q := 12) (by kernel_rfl) ?_
    refine fine_ask O (n := 100000) (q := 1000) (by kernel_rfl) ?_
    exact fine_parEnd (by kernel_rfl) H
  · intro P t i o b e a p p' D O H
    refine fine_go O (n := 100000) (q := 24) ?_
    refine fine_ask O (n := 100000) (q := 5) (by kernel_rfl) ?_
    refine fine_ask O (n := 100000) (q := 2) (by kernel_rfl) ?_
    refine fine_call O (n := 100000) (n' := 100000) (q := 54) (fun b c => by cases b <;> cases c <;> kernel_rfl) ?_
    refine fine_ask O (n := 100000) (q := 16) (by kernel_rfl) ?_
    refine fine_ask O (n := 100000) (q := 3) (by kernel_rfl) ?_
    refine fine_ask O (n := 100000) (q := 12) (by kernel_rfl) ?_
    refine fine_ask O (n := 100000) (q := 1000) (by kernel_rfl) ?_
    exact fine_parEnd (by kernel_rfl) H
  · intro P t i o b e a p p' D O H
    refine fine_go O (n := 100000) (q := 24) ?_
    refine fine_ask O (n := 100000) (q := 5) (by kernel_rfl) ?_
    refine fine_ask O (n := 100000) (q := 2) (by kernel_rfl) ?_
    refine fine_call O (n := 100000) (n' := 100000) (q := 54) (fun b c => by cases b <;> cases c <;> kernel_rfl) ?_
    refine fine_ask O (n := 100000) (q := 16) (by kernel_rfl) ?_
    refine fine_ask O (n := 100000) (q := 3) (by kernel_rfl) ?_
    refine fine_ask O (n := 100000) (q := 12) (by kernel_rfl) ?_
    refine fine_ask O (n := 100000) (q := 1000) (by kernel_rfl) ?_
    exact fine_parEnd (by kernel_rfl) H
  · intro P t i o b e a p p' D O H
    refine fine_go O (n := 100000) (q := 24) ?_
    refine fine_ask O (n := 100000) (q := 5) (by kernel_rfl) ?_
    refine fine_ask O (n := 100000) (q := 2) (by kernel_rfl) ?_
    refine fine_call O (n := 100000) (n' := 100000) (q := 54) (fun b c => by cases b <;> cases c <;> kernel_rfl) ?_
    refine fine_ask O (n := 100000) (q := 16) (by kernel_rfl) ?_
    refine fine_ask O (n := 100000) (q := 3) (by kernel_rfl) ?_
    refine fine_ask O (n := 100000) (q := 12) (by kernel_rfl) ?_
    refine fine_ask O (n := 100000) (q := 1000) (by kernel_rfl) ?_
    exact fine_parEnd (by kernel_rfl) H
  · intro P t i o b e a p p' D O H
    refine fine_go O (n := 100000) (q := 24) ?_
    refine fine_ask O (n := 100000) (q := 5) (by kernel_rfl) ?_
    refine fine_ask O (n := 100000) (q := 2) (by kernel_rfl) ?_
    refine fine_call O (n := 100000) (n' := 100000) (q := 54) (fun b c => by cases b <;> cases c <;> kernel_rfl) ?_
    refine fine_ask O (n := 100000) (q := 16) (by kernel_rfl) ?_
    refine fine_ask O (n := 100000) (q := 3) (by kernel_rfl) ?_
    refine fine_ask O (n := 100000) (q := 12) (by kernel_rfl) ?_
    refine fine_ask O (n := 100000) (q := 1000) (by kernel_rfl) ?_
    exact fine_parEnd (by kernel_rfl) H
  · intro P t i o b e a p p' D O H
    refine fine_go O (n := 100000) (q := 24) ?_
    refine fine_ask O (n := 100000) (q := 5) (by kernel_rfl) ?_
    refine fine_ask O (n := 100000) (q := 2) (by kernel_rfl) ?_
    refine fine_call O (n := 100000) (n' := 100000) (q := 54) (fun b c => by cases b <;> cases c <;> kernel_rfl) ?_
    refine fine_ask O (n := 100000) (q := 16) (by kernel_rfl) ?_
    refine fine_ask O (n := 100000) (q := 3) (by kernel_rfl) ?_
    refine fine_ask O (n := 100000) (q := 12) (by kernel_rfl) ?_
    refine fine_ask O (n := 100000) (q := 1000) (by kernel_rfl) ?_
    exact fine_parEnd (by kernel_rfl) H
  · intro P t i o b e a p p' D O H
    refine fine_go O (n := 100000) (q := 24) ?_
    refine fine_ask O (n := 100000) (q := 5) (by kernel_rfl) ?_
    refine fine_ask O (n := 100000) (q := 2) (by kernel_rfl) ?_
    refine fine_call O (n := 100000) (n' := 100000) (q := 54) (fun b c => by cases b <;> cases c <;> kernel_rfl) ?_
    refine fine_ask O (n := 100000) (q := 16) (by kernel_rfl) ?_
    refine fine_ask O (n := 100000) (q := 3) (by kernel_rfl) ?_
    refine fine_ask O (n := 100000) (q := 12) (by kernel_rfl) ?_
    refine fine_ask O (n := 100000) (q := 1000) (by kernel_rfl) ?_
    exact fine_parEnd (by kernel_rfl) H
  · intro P t i o b e a p p' D O H
    refine fine_go O (n := 100000) (q := 24) ?_
    refine fine_ask O (n := 100000) (q := 5) (by kernel_rfl) ?_
    refine fine_ask O (n := 100000) (q := 2) (by kernel_rfl) ?_
    refine fine_call O (n := 100000) (n' := 100000) (q := 54) (fun b c => by cases b <;> cases c <;> kernel_rfl) ?_
    refine fine_ask O (n := 100000) (q := 16) (by kernel_rfl) ?_
    refine fine_ask O (n := 100000) (q := 3) (by kernel_rfl) ?_
    refine fine_ask O (n := 100000) (q := 12) (by kernel_rfl) ?_
    refine fine_ask O (n := 100000) (q := 1000) (by kernel_rfl) ?_
    exact fine_parEnd (by kernel_rfl) H
theorem par22 : ParOk 22 := pars.1
theorem par29 : ParOk 29 := pars.2.1
theorem par31 : ParOk 31 := pars.2.2.1
theorem par33 : ParOk 33 := pars.2.2.2.1
theorem par34 : ParOk 34 := pars.2.2.2.2.1
theorem par35 : ParOk 35 := pars.2.2.2.2.2.1
theorem par37 : ParOk 37 := pars.2.2.2.2.2.2.1
theorem par38 : ParOk 38 := pars.2.2.2.2.2.2.2.1
theorem par55 : ParOk 55 := pars.2.2.2.2.2.2.2.2.1
theorem par57 : ParOk 57 := pars.2.2.2.2.2.2.2.2.2
end Mine

namespace Mine
theorem g00 : RunOk 0 ⟨#[49, 50, 51, 83, 65]⟩ ∧
  RunOk 0 ⟨#[49, 50, 51, 83, 85]⟩ ∧
  RunOk 0 ⟨#[49, 50, 51, 84, 72]⟩ ∧
  RunOk 0 ⟨#[49, 50, 51, 84, 117]⟩ ∧
  RunOk 0 ⟨#[49, 50, 51, 102, 114]⟩ ∧
  RunOk 0 ⟨#[49, 50, 51, 109, 111]⟩ ∧
  RunOk 0 ⟨#[49, 50, 51, 119, 69]⟩ ∧
  RunOk 0 ⟨#[43, 48, 83, 85, 78]⟩ ∧
  RunOk 0 ⟨#[43, 83, 85, 78]⟩ ∧
  RunOk 0 ⟨#[43, 120, 49, 50]⟩ := by
  refine ⟨?_, ?_, ?_, ?_, ?_, ?_, ?_, ?_, ?_, ?_⟩
  · intro P t m p D O hR
    refine fine_go O (n := 100000) (q := 4) ?_
    refine fine_ask O (n := 100000) (q := 12) (by kernel_rfl) ?_
    refine fine_ask O (n := 100000) (q := 12) (by kernel_rfl) ?_
    refine fine_ask O (n := 100000) (q := 4) (by kernel_rfl) ?_
    refine fine_ask O (n := 100000) (q := 6) (by kernel_rfl) ?_
    refine fine_contains O (n := 100000) (q := 4) 626 ⟨#[83, 65]⟩ (Nat.add (St.t₀ (V2 P t)) 9) (by kernel_rfl) (by kernel_rfl) ?_
    refine fine_ask O (n := 100000) (q := 7) (by kernel_rfl) ?_
    refine fine_ask O (n := 100000) (q := 62) (by kernel_rfl) ?_
    refine fine_tok O (n := 100000) (q := 1000) (by kernel_rfl) (by kernel_rfl) (fun _ => by kernel_rfl) (fun _ _ => by kernel_rfl) ?_
    intro u tk
    exact fine_true (by kernel_rfl) hR
  · intro P t m p D O hR
    refine fine_go O (n := 100000) (q := 4) ?_
    refine fine_ask O (n := 100000) (q := 12) (by kernel_rfl) ?_
    refine fine_ask O (n := 100000) (q := 12) (by kernel_rfl) ?_
    refine fine_ask O (n := 100000) (q := 4) (by kernel_rfl) ?_
    refine fine_ask O (n := 100000) (q := 6) (by kernel_rfl) ?_
    refine fine_contains O (n := 100000) (q := 4) 626 ⟨#[83, 85]⟩ (Nat.add (St.t₀ (V2 P t)) 9) (by kernel_rfl) (by kernel_rfl) ?_
    refine fine_ask O (n := 100000) (q := 7) (by kernel_rfl) ?_
    refine fine_ask O (n := 100000) (q := 62) (by kernel_rfl) ?_
    refine fine_tok O (n := 100000) (q := 1000) (by kernel_rfl) (by kernel_rfl) (fun _ => by kernel_rfl) (fun _ _ => by kernel_rfl) ?_
    intro u tk
    exact fine_true (by kernel_rfl) hR
  · intro P t m p D O hR
    refine fine_go O (n := 100000) (q := 4) ?_
    refine fine_ask O (n := 100000) (q := 12) (by kernel_rfl) ?_
    refine fine_ask O (n := 100000) (q := 12) (by kernel_rfl) ?_
    refine fine_ask O (n := 100000) (q := 4) (by kernel_rfl) ?_
    refine fine_ask O (n := 100000) (q := 6) (by kernel_rfl) ?_
    refine fine_contains O (n := 100000) (q := 4) 626 ⟨#[84, 72]⟩ (Nat.add (St.t₀ (V2 P t)) 9) (by kernel_rfl) (by kernel_rfl) ?_
    refine fine_ask O (n := 100000) (q := 7) (by kernel_rfl) ?_
    refine fine_ask O (n := 100000) (q := 62) (by kernel_rfl) ?_
    refine fine_tok O (n := 100000) (q := 1000) (by kernel_rfl) (by kernel_rfl) (fun _ => by kernel_rfl) (fun _ _ => by kernel_rfl) ?_
    intro u tk
    exact fine_true (by kernel_rfl) hR
  · intro P t m p D O hR
    refine fine_go O (n := 100000) (q := 4) ?_
    refine fine_ask O (n := 100000) (q := 12) (by kernel_rfl) ?_
    refine fine_ask O (n := 100000) (q := 12) (by kernel_rfl) ?_
    refine fine_ask O (n := 100000) (q := 4) (by kernel_rfl) ?_
    refine fine_ask O (n := 100000) (q := 6) (by kernel_rfl) ?_
    refine fine_contains O (n := 100000) (q := 4) 626 ⟨#[84, 85]⟩ (Nat.add (St.t₀ (V2 P t)) 9) (by kernel_rfl) (by kernel_rfl) ?_
    refine fine_ask O (n := 100000) (q := 7) (by kernel_rfl) ?_
    refine fine_ask O (n := 100000) (q := 62) (by kernel_rfl) ?_
    refine fine_tok O (n := 100000) (q := 1000) (by kernel_rfl) (by kernel_rfl) (fun _ => by kernel_rfl) (fun _ _ => by kernel_rfl) ?_
    intro u tk
    exact fine_true (by kernel_rfl) hR
  · intro P t m p D O hR
    refine fine_go O (n := 100000) (q := 4) ?_
    refine fine_ask O (n := 100000) (q := 12) (by kernel_rfl) ?_
    refine fine_ask O (n := 100000) (q := 12) (by kernel_rfl) ?_
    refine fine_ask O (n := 100000) (q := 4) (by kernel_rfl) ?_
    refine fine_ask O (n := 100000) (q := 6) (by kernel_rfl) ?_
    refine fine_contains O (n := 100000) (q := 4) 626 ⟨#[70, 82]⟩ (Nat.add (St.t₀ (V2 P t)) 9) (by kernel_rfl) (by kernel_rfl) ?_
    refine fine_ask O (n := 100000) (q := 7) (by kernel_rfl) ?_
    refine fine_ask O (n := 100000) (q := 62) (by kernel_rfl) ?_
    refine fine_tok O (n := 100000) (q := 1000) (by kernel_rfl) (by kernel_rfl) (fun _ => by kernel_rfl) (fun _ _ => by kernel_rfl) ?_
    intro u tk
    exact fine_true (by kernel_rfl) hR
  · intro P t m p D O hR
    refine fine_go O (n := 100000) (q := 4) ?_
    refine fine_ask O (n := 100000) (q := 12) (by kernel_rfl) ?_
    refine fine_ask O (n := 100000) (q := 12) (by kernel_rfl) ?_
    refine fine_ask O (n := 100000) (q := 4) (by kernel_rfl) ?_
    refine fine_ask O (n := 100000) (q := 6) (by kernel_rfl) ?_
    refine fine_contains O (n := 100000) (q := 4) 626 ⟨#[77, 79]⟩ (Nat.add (St.t₀ (V2 P t)) 9) (by kernel_rfl) (by kernel_rfl) ?_
    refine fine_ask O (n := 100000) (q := 7) (by kernel_rfl) ?_
    refine fine_ask O (n := 100000) (q := 62) (by kernel_rfl) ?_
    refine fine_tok O (n := 100000) (q := 1000) (by kernel_rfl) (by kernel_rfl) (fun _ => by kernel_rfl) (fun _ _ => by kernel_rfl) ?_
    intro u tk
    exact fine_true (by kernel_rfl) hR
  · intro P t m p D O hR
    refine fine_go O (n := 100000) (q := 4) ?_
    refine fine_ask O (n := 100000) (q := 12) (by kernel_rfl) ?_
    refine fine_ask O (n := 100000) (q := 12) (by kernel_rfl) ?_
    refine fine_ask O (n := 100000) (q := 4) (by kernel_rfl) ?_
    refine fine_ask O (n := 100000) (q := 6) (by kernel_rfl) ?_
    refine fine_contains O (n := 100000) (q := 4) 626 ⟨#[87, 69]⟩ (Nat.add (St.t₀ (V2 P t)) 9) (by kernel_rfl) (by kernel_rfl) ?_
    refine fine_ask O (n := 100000) (q := 7) (by kernel_rfl) ?_
    refine fine_ask O (n := 100000) (q := 62) (by kernel_rfl) ?_
    refine fine_tok O (n := 100000) (q := 1000) (by kernel_rfl) (by kernel_rfl) (fun _ => by kernel_rfl) (fun _ _ => by kernel_rfl) ?_
    intro u tk
    exact fine_true (by kernel_rfl) hR
  · intro P t m p D O hR
    refine fine_go O (n := 100000) (q := 4) ?_
    refine fine_ask O (n := 100000) (q := 12) (by kernel_rfl) ?_
    refine fine_ask O (n := 100000) (q := 12) (by kernel_rfl) ?_
    refine fine_ask O (n := 100000) (q := 10) (by kernel_rfl) ?_
    refine fine_ask O (n := 100000) (q := 3) (by kernel_rfl) ?_
    refine fine_ask O (n := 100000) (q := 3) (by kernel_rfl) ?_
    refine fine_ask O (n := 100000) (q := 3) (by kernel_rfl) ?_
    refine fine_ask O (n := 100000) (q := 3) (by kernel_rfl) ?_
    refine fine_ask O (n := 100000) (q := 3) (by kernel_rfl) ?_
    refine fine_ask O (n := 100000) (q := 3) (by kernel_rfl) ?_
    refine fine_ask O (n := 100000) (q := 8) (by kernel_rfl) ?_
    refine fine_ask O (n := 100000) (q := 62) (by kernel_rfl) ?_
    refine fine_tok O (n := 100000) (q := 1000) (by kernel_rfl) (by kernel_rfl) (fun _ => by kernel_rfl) (fun _ _ => by kernel_rfl) ?_
    intro u tk
    exact fine_true (by kernel_rfl) hR
  · intro P t m p D O hR
    refine fine_go O (n := 100000) (q := 4) ?_
    refine fine_ask O (n := 100000) (q := 12) (by kernel_rfl) ?_
    refine fine_ask O (n := 100000) (q := 12) (by kernel_rfl) ?_
    refine fine_ask O (n := 100000) (q := 10) (by kernel_rfl) ?_
    refine fine_ask O (n := 100000) (q := 3) (by kernel_rfl) ?_
    refine fine_ask O (n := 100000) (q := 3) (by kernel_rfl) ?_
    refine fine_ask O (n := 100000) (q := 3) (by kernel_rfl) ?_
    refine fine_ask O (n := 100000) (q := 3) (by kernel_rfl) ?_
    refine fine_ask O (n := 100000) (q := 3) (by kernel_rfl) ?_
    refine fine_ask O (n := 100000) (q := 3) (by kernel_rfl) ?_
    refine fine_ask O (n := 100000) (q := 8) (by kernel_rfl) ?_
    refine fine_ask O (n := 100000) (q := 62) (by kernel_rfl) ?_
    refine fine_tok O (n := 100000) (q := 1000) (by kernel_rfl) (by kernel_rfl) (fun _ => by kernel_rfl) (fun _ _ => by kernel_rfl) ?_
    intro u tk
    exact fine_true (by kernel_rfl) hR
  · intro P t m p D O hR
    refine fine_go O (n := 100000) (q := 4) ?_
    refine fine_ask O (n := 100000) (q := 12) (by kernel_rfl) ?_
    refine fine_ask O (n := 100000) (q := 12) (by kernel_rfl) ?_
    refine fine_ask O (n := 100000) (q := 10) (by kernel_rfl) ?_
    refine fine_ask O (n := 100000) (q := 3) (by kernel_rfl) ?_
    refine fine_ask O (n := 100000) (q := 3) (by kernel_rfl) ?_
    refine fine_ask O (n := 100000) (q := 3) (by kernel_rfl) ?_
    refine fine_ask O (n := 100000) (q := 3) (by kernel_rfl) ?_
    refine fine_ask O (n := 100000) (q := 3) (by kernel_rfl) ?_
    refine fine_ask O (n := 100000) (q := 3) (by kernel_rfl) ?_
    refine fine_ask O (n := 100000) (q := 8) (by kernel_rfl) ?_
    refine fine_ask O (n := 100000) (q := 62) (by kernel_rfl) ?_
    refine fine_tok O (n := 100000) (q := 1000) (by kernel_rfl) (by kernel_rfl) (fun _ => by kernel_rfl) (fun _ _ => by kernel_rfl) ?_
    intro u tk
    exact fine_true (by kernel_rfl) hR
end Mine

namespace Mine
theorem g01 : RunOk 0 ⟨#[43, 120, 83, 85, 78]⟩ ∧
  RunOk 0 ⟨#[43, 120, 120, 120]⟩ ∧
  RunOk 0 ⟨#[43, 120, 83, 65]⟩ ∧
  RunOk 0 ⟨#[43, 120, 83, 85]⟩ ∧
  RunOk 0 ⟨#[43, 120, 84, 72]⟩ ∧
  RunOk 0 ⟨#[43, 120, 84, 117]⟩ ∧
  RunOk 0 ⟨#[43, 120, 102, 114]⟩ ∧
  RunOk 0 ⟨#[43, 120, 109, 111]⟩ ∧
  RunOk 0 ⟨#[43, 120, 119, 69]⟩ ∧
  RunOk 0 ⟨#[45, 45, 49, 50]⟩ := by
  refine ⟨?_, ?_, ?_, ?_, ?_, ?_, ?_, ?_, ?_, ?_⟩
  · intro P t m p D O hR
    refine fine_go O (n := 100000) (q := 4) ?_
    refine fine_ask O (n := 100000) (q := 12) (by kernel_rfl) ?_
    refine fine_ask O (n := 100000) (q := 12) (by kernel_rfl) ?_
    refine fine_ask O (n := 100000) (q := 10) (by kernel_rfl) ?_
    refine fine_ask O (n := 100000) (q := 3) (by kernel_rfl) ?_
    refine fine_ask O (n := 100000) (q := 3) (by kernel_rfl) ?_
    refine fine_ask O (n := 100000) (q := 3) (by kernel_rfl) ?_
    refine fine_ask O (n := 100000) (q := 3) (by kernel_rfl) ?_
    refine fine_ask O (n := 100000) (q := 3) (by kernel_rfl) ?_
    refine fine_ask O (n := 100000) (q := 3) (by kernel_rfl) ?_
    refine fine_ask O (n := 100000) (q := 8) (by kernel_rfl) ?_
    refine fine_ask O (n := 100000) (q := 62) (by kernel_rfl) ?_
    refine fine_tok O (n := 100000) (q := 1000) (by kernel_rfl) (by kernel_rfl) (fun _ => by kernel_rfl) (fun _ _ => by kernel_rfl) ?_
    intro u tk
    exact fine_true (by kernel_rfl) hR
  · intro P t m p D O hR
    refine fine_go O (n := 100000) (q := 4) ?_
    refine fine_ask O (n := 100000) (q := 12) (by kernel_rfl) ?_
    refine fine_ask O (n := 100000) (q := 12) (by kernel_rfl) ?_
    refine fine_ask O (n := 100000) (q := 10) (by kernel_rfl) ?_
    refine fine_ask O (n := 100000) (q := 3) (by kernel_rfl) ?_
    refine fine_ask O (n := 100000) (q := 3) (by kernel_rfl) ?_
    refine fine_ask O (n := 100000) (q := 3) (by kernel_rfl) ?_
    refine fine_ask O (n := 100000) (q := 3) (by kernel_rfl) ?_
    refine fine_ask O (n := 100000) (q := 3) (by kernel_rfl) ?_
    refine fine_ask O (n := 100000) (q := 3) (by kernel_rfl) ?_
    refine fine_ask O (n := 100000) (q := 8) (by kernel_rfl) ?_
    refine fine_ask O (n := 100000) (q := 62) (by kernel_rfl) ?_
    refine fine_tok O (n := 100000) (q := 1000) (by kernel_rfl) (by kernel_rfl) (fun _ => by kernel_rfl) (fun _ _ => by kernel_rfl) ?_
    intro u tk
    exact fine_true (by kernel_rfl) hR
  · intro P t m p D O hR
    refine fine_go O (n := 100000) (q := 4) ?_
    refine fine_ask O (n := 100000) (q := 12) (by kernel_rfl) ?_
    refine fine_ask O (n := 100000) (q := 12) (by kernel_rfl) ?_
    refine fine_ask O (n := 100000) (q := 8) (by kernel_rfl) ?_
    refine fine_contains O (n := 100000) (q := 4) 626 ⟨#[83, 65]⟩ (Nat.add (St.t₀ (V2 P t)) 9) (by kernel_rfl) (by kernel_rfl) ?_
    refine fine_ask O (n := 100000) (q := 2) (by kernel_rfl) ?_
    refine fine_ask O (n := 100000) (q := 5) (by kernel_rfl) ?_
    refine fine_ask O (n := 100000) (q := 2) (by kernel_rfl) ?_
    refine fine_ask O (n := 100000) (q := 2) (by kernel_rfl) ?_
    refine fine_call O (n := 100000) (n' := 100000) (q := 0) (fun b c => by cases b <;> cases c <;> kernel_rfl) ?_
    refine fine_ask O (n := 100000) (q := 7) (by kernel_rfl) ?_
    refine fine_ask O (n := 100000) (q := 62) (by kernel_rfl) ?_
    refine fine_tok O (n := 100000) (q := 1000) (by kernel_rfl) (by kernel_rfl) (fun _ => by kernel_rfl) (fun _ _ => by kernel_rfl) ?_
    intro u tk
    exact fine_true (by kernel_rfl) hR
  · intro P t m p D O hR
    refine fine_go O (n := 100000) (q := 4) ?_
    refine fine_ask O (n := 100000) (q := 12) (by kernel_rfl) ?_
    refine fine_ask O (n := 100000) (q := 12) (by kernel_rfl) ?_
    refine fine_ask O (n := 100000) (q := 8) (by kernel_rfl) ?_
    refine fine_contains O (n := 100000) (q := 4) 626 ⟨#[83, 85]⟩ (Nat.add (St.t₀ (V2 P t)) 9) (by kernel_rfl) (by kernel_rfl) ?_
    refine fine_ask O (n := 100000) (q := 2) (by kernel_rfl) ?_
    refine fine_ask O (n := 100000) (q := 5) (by kernel_rfl) ?_
    refine fine_ask O (n := 100000) (q := 2) (by kernel_rfl) ?_
    refine fine_ask O (n := 100000) (q := 2) (by kernel_rfl) ?_
    refine fine_call O (n := 100000) (n' := 100000) (q := 0) (fun b c => by cases b <;> cases c <;> kernel_rfl) ?_
    refine fine_ask O (n := 100000) (q := 7) (by kernel_rfl) ?_
    refine fine_ask O (n := 100000) (q := 62) (by kernel_rfl) ?_
    refine fine_tok O (n := 100000) (q := 1000) (by kernel_rfl) (by kernel_rfl) (fun _ => by kernel_rfl) (fun _ _ => by kernel_rfl) ?_
    intro u tk
    exact fine_true (by kernel_rfl) hR
  · intro P t m p D O hR
    refine fine_go O (n := 100000) (q := 4) ?_
    refine fine_ask O (n := 100000) (q := 12) (by kernel_rfl) ?_
    refine fine_ask O (n := 100000) (q := 12) (by kernel_rfl) ?_
    refine fine_ask O (n := 100000) (q := 8) (by kernel_rfl) ?_
    refine fine_contains O (n := 100000) (q := 4) 626 ⟨#[84, 72]⟩ (Nat.add (St.t₀ (V2 P t)) 9) (by kernel_rfl) (by kernel_rfl) ?_
    refine fine_ask O (n := 100000) (q := 2) (by kernel_rfl) ?_
    refine fine_ask O (n := 100000) (q := 5) (by kernel_rfl) ?_
    refine fine_ask O (n := 100000) (q := 2) (by kernel_rfl) ?_
    refine fine_ask O (n := 100000) (q := 2) (by kernel_rfl) ?_
    refine fine_call O (n := 100000) (n' := 100000) (q := 0) (fun b c => by cases b <;> cases c <;> kernel_rfl) ?_
    refine fine_ask O (n := 100000) (q := 7) (by kernel_rfl) ?_
    refine fine_ask O (n := 100000) (q := 62) (by kernel_rfl) ?_
    refine fine_tok O (n := 100000) (q := 1000) (by kernel_rfl) (by kernel_rfl) (fun _ => by kernel_rfl) (fun _ _ => by kernel_rfl) ?_
    intro u tk
    exact fine_true (by kernel_rfl) hR
  · intro P t m p D O hR
    refine fine_go O (n := 100000) (q := 4) ?_
    refine fine_ask O (n := 100000) (q := 12) (by kernel_rfl) ?_
    refine fine_ask O (n := 100000) (q := 12) (by kernel_rfl) ?_
    refine fine_ask O (n := 100000) (q := 8) (by kernel_rfl) ?_
    refine fine_contains O (n := 100000) (q := 4) 626 ⟨#[84, 85]⟩ (Nat.add (St.t₀ (V2 P t)) 9) (by kernel_rfl) (by kernel_rfl) ?_
    refine fine_ask O (n := 100000) (q := 2) (by kernel_rfl) ?_
    refine fine_ask O (n := 100000) (q := 5) (by kernel_rfl) ?_
    refine fine_ask O (n := 100000) (q := 2) (by kernel_rfl) ?_
    refine fine_ask O (n := 100000) (q := 2) (by kernel_rfl) ?_
    refine fine_call O (n := 100000) (n' := 100000) (q := 0) (fun b c => by cases b <;> cases c <;> kernel_rfl) ?_
    refine fine_ask O (n := 100000) (q := 7) (by kernel_rfl) ?_
    refine fine_ask O (n := 100000) (q := 62) (by kernel_rfl) ?_
    refine fine_tok O (n := 100000) (q := 1000) (by kernel_rfl) (by kernel_rfl) (fun _ => by kernel_rfl) (fun _ _ => by kernel_rfl) ?_
    intro u tk
    exact fine_true (by kernel_rfl) hR
  · intro P t m p D O hR
    refine fine_go O (n := 100000) (q := 4) ?_
    refine fine_ask O (n := 100000) (q := 12) (by kernel_rfl) ?_
    refine fine_ask O (n := 100000) (q := 12) (by kernel_rfl) ?_
    refine fine_ask O (n := 100000) (q := 8) (by kernel_rfl) ?_
    refine fine_contains O (n := 100000) (q := 4) 626 ⟨#[70, 82]⟩ (Nat.add (St.t₀ (V2 P t)) 9) (by kernel_rfl) (by kernel_rfl) ?_
    refine fine_ask O (n := 100000) (q := 2) (by kernel_rfl) ?_
    refine fine_ask O (n := 100000) (q := 5) (by kernel_rfl) ?_
    refine fine_ask O (n := 100000) (q := 2) (by kernel_rfl) ?_
    refine fine_ask O (n := 100000) (q := 2) (by kernel_rfl) ?_
    refine fine_call O (n := 100000) (n' := 100000) (q := 0) (fun b c => by cases b <;> cases c <;> kernel_rfl) ?_
    refine fine_ask O (n := 100000) (q := 7) (by kernel_rfl) ?_
    refine fine_ask O (n := 100000) (q := 62) (by kernel_rfl) ?_
    refine fine_tok O (n := 100000) (q := 1000) (by kernel_rfl) (by kernel_rfl) (fun _ => by kernel_rfl) (fun _ _ => by kernel_rfl) ?_
    intro u tk
    exact fine_true (by kernel_rfl) hR
  · intro P t m p D O hR
    refine fine_go O (n := 100000) (q := 4) ?_
    refine fine_ask O (n := 100000) (q := 12) (by kernel_rfl) ?_
    refine fine_ask O (n := 100000) (q := 12) (by kernel_rfl) ?_
    refine fine_ask O (n := 100000) (q := 8) (by kernel_rfl) ?_
    refine fine_contains O (n := 100000) (q := 4) 626 ⟨#[77, 79]⟩ (Nat.add (St.t₀ (V2 P t)) 9) (by kernel_rfl) (by kernel_rfl) ?_
    refine fine_ask O (n := 100000) (q := 2) (by kernel_rfl) ?_
    refine fine_ask O (n := 100000) (q := 5) (by kernel_rfl) ?_
    refine fine_ask O (n := 100000) (q := 2) (by kernel_rfl) ?_
    refine fine_ask O (n := 100000) (q := 2) (by kernel_rfl) ?_
    refine fine_call O (n := 100000) (n' := 100000) (q := 0) (fun b c => by cases b <;> cases c <;> kernel_rfl) ?_
    refine fine_ask O (n := 100000) (q := 7) (by kernel_rfl) ?_
    refine fine_ask O (n := 100000) (q := 62) (by kernel_rfl) ?_
    refine fine_tok O (n := 100000) (q := 1000) (by kernel_rfl) (by kernel_rfl) (fun _ => by kernel_rfl) (fun _ _ => by kernel_rfl) ?_
    intro u tk
    exact fine_true (by kernel_rfl) hR
  · intro P t m p D O hR
    refine fine_go O (n := 100000) (q := 4) ?_
    refine fine_ask O (n := 100000) (q := 12) (by kernel_rfl) ?_
    refine fine_ask O (n := 100000) (q := 12) (by kernel_rfl) ?_
    refine fine_ask O (n := 100000) (q := 8) (by kernel_rfl) ?_
    refine fine_contains O (n := 100000) (q := 4) 626 ⟨#[87, 69]⟩ (Nat.add (St.t₀ (V2 P t)) 9) (by kernel_rfl) (by kernel_rfl) ?_
    refine fine_ask O (n := 100000) (q := 2) (by kernel_rfl) ?_
    refine fine_ask O (n := 100000) (q := 5) (by kernel_rfl) ?_
    refine fine_ask O (n := 100000) (q := 2) (by kernel_rfl) ?_
    refine fine_ask O (n := 100000) (q := 2) (by kernel_rfl) ?_
    refine fine_call O (n := 100000) (n' := 100000) (q := 0) (fun b c => by cases b <;> cases c <;> kernel_rfl) ?_
    refine fine_ask O (n := 100000) (q := 7) (by kernel_rfl) ?_
    refine fine_ask O (n := 100000) (q := 62) (by kernel_rfl) ?_
    refine fine_tok O (n := 100000) (q := 1000) (by kernel_rfl) (by kernel_rfl) (fun _ => by kernel_rfl) (fun _ _ => by kernel_rfl) ?_
    intro u tk
    exact fine_true (by kernel_rfl) hR
  · intro P t m p D O hR
    refine fine_go O (n := 100000) (q := 4) ?_
    refine fine_ask O (n := 100000) (q := 12) (by kernel_rfl) ?_
    refine fine_ask O (n := 100000) (q := 12) (by kernel_rfl) ?_
    refine fine_ask O (n := 100000) (q := 4) (by kernel_rfl) ?_
    refine fine_ask O (n := 100000) (q := 10) (by kernel_rfl) ?_
    refine fine_ask O (n := 100000) (q := 3) (by kernel_rfl) ?_
    refine fine_ask O (n := 100000) (q := 3) (by kernel_rfl) ?_
    refine fine_ask O (n := 100000) (q := 3) (by kernel_rfl) ?_
    refine fine_ask O (n := 100000) (q := 3) (by kernel_rfl) ?_
    refine fine_ask O (n := 100000) (q := 3) (by kernel_rfl) ?_
    refine fine_ask O (n := 100000) (q := 3) (by kernel_rfl) ?_
    refine fine_ask O (n := 100000) (q := 8) (by kernel_rfl) ?_
    refine fine_ask O (n := 100000) (q := 62) (by kernel_rfl) ?_
    refine fine_tok O (n := 100000) (q := 1000) (by kernel_rfl) (by kernel_rfl) (fun _ => by kernel_rfl) (fun _ _ => by kernel_rfl) ?_
    intro u tk
    exact fine_true (by kernel_rfl) hR
end Mine

namespace Mine
theorem g02 : RunOk 0 ⟨#[45, 45, 83]⟩ ∧
  RunOk 0 ⟨#[45, 45, 83, 85, 78]⟩ ∧
  RunOk 0 ⟨#[45, 45, 120, 120]⟩ ∧
  RunOk 0 ⟨#[45, 48, 48, 83, 85, 78]⟩ ∧
  RunOk 0 ⟨#[45, 53, 51, 83, 85, 78]⟩ ∧
  RunOk 0 ⟨#[45, 83, 85, 78]⟩ ∧
  RunOk 0 ⟨#[]⟩ ∧
  RunOk 0 ⟨#[43]⟩ ∧
  RunOk 0 ⟨#[43, 48]⟩ ∧
  RunOk 0 ⟨#[43, 83]⟩ := by
  refine ⟨?_, ?_, ?_, ?_, ?_, ?_, ?_, ?_, ?_, ?_⟩
  · intro P t m p D O hR
    refine fine_go O (n := 100000) (q := 4) ?_
    refine fine_ask O (n := 100000) (q := 12) (by kernel_rfl) ?_
    refine fine_ask O (n := 100000) (q := 12) (by kernel_rfl) ?_
    refine fine_ask O (n := 100000) (q := 4) (by kernel_rfl) ?_
    refine fine_ask O (n := 100000) (q := 10) (by kernel_rfl) ?_
    refine fine_ask O (n := 100000) (q := 3) (by kernel_rfl) ?_
    refine fine_ask O (n := 100000) (q := 3) (by kernel_rfl) ?_
    refine fine_ask O (n := 100000) (q := 3) (by kernel_rfl) ?_
    refine fine_ask O (n := 100000) (q := 3) (by kernel_rfl) ?_
    refine fine_ask O (n := 100000) (q := 3) (by kernel_rfl) ?_
    refine fine_ask O (n := 100000) (q := 3) (by kernel_rfl) ?_
    refine fine_ask O (n := 100000) (q := 8) (by kernel_rfl) ?_
    refine fine_ask O (n := 100000) (q := 62) (by kernel_rfl) ?_
    refine fine_tok O (n := 100000) (q := 1000) (by kernel_rfl) (by kernel_rfl) (fun _ => by kernel_rfl) (fun _ _ => by kernel_rfl) ?_
    intro u tk
    exact fine_true (by kernel_rfl) hR
  · intro P t m p D O hR
    refine fine_go O (n := 100000) (q := 4) ?_
    refine fine_ask O (n := 100000) (q := 12) (by kernel_rfl) ?_
    refine fine_ask O (n := 100000) (q := 12) (by kernel_rfl) ?_
    refine fine_ask O (n := 100000) (q := 4) (by kernel_rfl) ?_
    refine fine_ask O (n := 100000) (q := 10) (by kernel_rfl) ?_
    refine fine_ask O (n := 100000) (q := 3) (by kernel_rfl) ?_
    refine fine_ask O (n := 100000) (q := 3) (by kernel_rfl) ?_
    refine fine_ask O (n := 100000) (q := 3) (by kernel_rfl) ?_
    refine fine_ask O (n := 100000) (q := 3) (by kernel_rfl) ?_
    refine fine_ask O (n := 100000) (q := 3) (by kernel_rfl) ?_
    refine fine_ask O (n := 100000) (q := 3) (by kernel_rfl) ?_
    refine fine_ask O (n := 100000) (q := 8) (by kernel_rfl) ?_
    refine fine_ask O (n := 100000) (q := 62) (by kernel_rfl) ?_
    refine fine_tok O (n := 100000) (q := 1000) (by kernel_rfl) (by kernel_rfl) (fun _ => by kernel_rfl) (fun _ _ => by kernel_rfl) ?_
    intro u tk
    exact fine_true (by kernel_rfl) hR
  · intro P t m p D O hR
    refine fine_go O (n := 100000) (q := 4) ?_
    refine fine_ask O (n := 100000) (q := 12) (by kernel_rfl) ?_
    refine fine_ask O (n := 100000) (q := 12) (by kernel_rfl) ?_
    refine fine_ask O (n := 100000) (q := 4) (by kernel_rfl) ?_
    refine fine_ask O (n := 100000) (q := 10) (by kernel_rfl) ?_
    refine fine_ask O (n := 100000) (q := 3) (by kernel_rfl) ?_
    refine fine_ask O (n := 100000) (q := 3) (by kernel_rfl) ?_
    refine fine_ask O (n := 100000) (q := 3) (by kernel_rfl) ?_
    refine fine_ask O (n := 100000) (q := 3) (by kernel_rfl) ?_
    refine fine_ask O (n := 100000) (q := 3) (by kernel_rfl) ?_
    refine fine_ask O (n := 100000) (q := 3) (by kernel_rfl) ?_
    refine fine_ask O (n := 100000) (q := 8) (by kernel_rfl) ?_
    refine fine_ask O (n := 100000) (q := 62) (by kernel_rfl) ?_
    refine fine_tok O (n := 100000) (q := 1000) (by kernel_rfl) (by kernel_rfl) (fun _ => by kernel_rfl) (fun _ _ => by kernel_rfl) ?_
    intro u tk
    exact fine_true (by kernel_rfl) hR
  · intro P t m p D O hR
    refine fine_go O (n := 100000) (q := 4) ?_
    refine fine_ask O (n := 100000) (q := 12) (by kernel_rfl) ?_
    refine fine_ask O (n := 100000) (q := 12) (by kernel_rfl) ?_
    refine fine_ask O (n := 100000) (q := 4) (by kernel_rfl) ?_
    refine fine_ask O (n := 100000) (q := 10) (by kernel_rfl) ?_
    refine fine_ask O (n := 100000) (q := 3) (by kernel_rfl) ?_
    refine fine_ask O (n := 100000) (q := 3) (by kernel_rfl) ?_
    refine fine_ask O (n := 100000) (q := 3) (by kernel_rfl) ?_
    refine fine_ask O (n := 100000) (q := 3) (by kernel_rfl) ?_
    refine fine_ask O (n := 100000) (q := 3) (by kernel_rfl) ?_
    refine fine_ask O (n := 100000) (q := 3) (by kernel_rfl) ?_
    refine fine_ask O (n := 100000) (q := 8) (by kernel_rfl) ?_
    refine fine_ask O (n := 100000) (q := 62) (by kernel_rfl) ?_
    refine fine_tok O (n := 100000) (q := 1000) (by kernel_rfl) (by kernel_rfl) (fun _ => by kernel_rfl) (fun _ _ => by kernel_rfl) ?_
    intro u tk
    exact fine_true (by kernel_rfl) hR
  · intro P t m p D O hR
    refine fine_go O (n := 100000) (q := 4) ?_
    refine fine_ask O (n := 100000) (q := 12) (by kernel_rfl) ?_
    refine fine_ask O (n := 100000) (q := 12) (by kernel_rfl) ?_
    refine fine_ask O (n := 100000) (q := 4) (by kernel_rfl) ?_
    refine fine_ask O (n := 100000) (q := 10) (by kernel_rfl) ?_
    refine fine_ask O (n := 100000) (q := 3) (by kernel_rfl) ?_
    refine fine_ask O (n := 100000) (q := 3) (by kernel_rfl) ?_
    refine fine_ask O (n := 100000) (q := 3) (by kernel_rfl) ?_
    refine fine_ask O (n := 100000) (q := 3) (by kernel_rfl) ?_
    refine fine_ask O (n := 100000) (q := 3) (by kernel_rfl) ?_
    refine fine_ask O (n := 100000) (q := 3) (by kernel_rfl) ?_
    refine fine_ask O (n := 100000) (q := 8) (by kernel_rfl) ?_
    refine fine_ask O (n := 100000) (q := 62) (by kernel_rfl) ?_
    refine fine_tok O (n := 100000) (q := 1000) (by kernel_rfl) (by kernel_rfl) (fun _ => by kernel_rfl) (fun _ _ => by kernel_rfl) ?_
    intro u tk
    exact fine_true (by kernel_rfl) hR
  · intro P t m p D O hR
    refine fine_go O (n := 100000) (q := 4) ?_
    refine fine_ask O (n := 100000) (q := 12) (by kernel_rfl) ?_
    refine fine_ask O (n := 100000) (q := 12) (by kernel_rfl) ?_
    refine fine_ask O (n := 100000) (q := 4) (by kernel_rfl) ?_
    refine fine_ask O (n := 100000) (q := 10) (by kernel_rfl) ?_
    refine fine_ask O (n := 100000) (q := 3) (by kernel_rfl) ?_
    refine fine_ask O (n := 100000) (q := 3) (by kernel_rfl) ?_
    refine fine_ask O (n := 100000) (q := 3) (by kernel_rfl) ?_
    refine fine_ask O (n := 100000) (q := 3) (by kernel_rfl) ?_
    refine fine_ask O (n := 100000) (q := 3) (by kernel_rfl) ?_
    refine fine_ask O (n := 100000) (q := 3) (by kernel_rfl) ?_
    refine fine_ask O (n := 100000) (q := 8) (by kernel_rfl) ?_
    refine fine_ask O (n := 100000) (q := 62) (by kernel_rfl) ?_
    refine fine_tok O (n := 100000) (q := 1000) (by kernel_rfl) (by kernel_rfl) (fun _ => by kernel_rfl) (fun _ _ => by kernel_rfl) ?_
    intro u tk
    exact fine_true (by kernel_rfl) hR
  · intro P t m p D O hR
    refine fine_go O (n := 100000) (q := 4) ?_
    refine fine_ask O (n := 100000) (q := 12) (by kernel_rfl) ?_
    refine fine_ask O (n := 100000) (q := 12) (by kernel_rfl) ?_
    refine fine_ask O (n := 100000) (q := 4) (by kernel_rfl) ?_
    refine fine_ask O (n := 100000) (q := 8) (by kernel_rfl) ?_
    refine fine_ask O (n := 100000) (q := 3) (by kernel_rfl) ?_
    refine fine_ask O (n := 100000) (q := 3) (by kernel_rfl) ?_
    refine fine_ask O (n := 100000) (q := 3) (by kernel_rfl) ?_
    refine fine_ask O (n := 100000) (q := 3) (by kernel_rfl) ?_
    refine fine_ask O (n := 100000) (q := 3) (by kernel_rfl) ?_
    refine fine_ask O (n := 100000) (q := 3) (by kernel_rfl) ?_
    refine fine_ask O (n := 100000) (q := 8) (by kernel_rfl) ?_
    refine fine_ask O (n := 100000) (q := 62) (by kernel_rfl) ?_
    refine fine_tok O (n := 100000) (q := 1000) (by kernel_rfl) (by kernel_rfl) (fun _ => by kernel_rfl) (fun _ _ => by kernel_rfl) ?_
    intro u tk
    exact fine_true (by kernel_rfl) hR
  · intro P t m p D O hR
    refine fine_go O (n := 100000) (q := 4) ?_
    refine fine_ask O (n := 100000) (q := 12) (by kernel_rfl) ?_
    refine fine_ask O (n := 100000) (q := 12) (by kernel_rfl) ?_
    refine fine_ask O (n := 100000) (q := 4) (by kernel_rfl) ?_
    refine fine_ask O (n := 100000) (q := 8) (by kernel_rfl) ?_
    refine fine_ask O (n := 100000) (q := 3) (by kernel_rfl) ?_
    refine fine_ask O (n := 100000) (q := 3) (by kernel_rfl) ?_
    refine fine_ask O (n := 100000) (q := 3) (by kernel_rfl) ?_
    refine fine_ask O (n := 100000) (q := 3) (by kernel_rfl) ?_
    refine fine_ask O (n := 100000) (q := 3) (by kernel_rfl) ?_
    refine fine_ask O (n := 100000) (q := 3) (by kernel_rfl) ?_
    refine fine_ask O (n := 100000) (q := 8) (by kernel_rfl) ?_
    refine fine_ask O (n := 100000) (q := 62) (by kernel_rfl) ?_
    refine fine_tok O (n := 100000) (q := 1000) (by kernel_rfl) (by kernel_rfl) (fun _ => by kernel_rfl) (fun _ _ => by kernel_rfl) ?_
    intro u tk
    exact fine_true (by kernel_rfl) hR
  · intro P t m p D O hR
    refine fine_go O (n := 100000) (q := 4) ?_
    refine fine_ask O (n := 100000) (q := 12) (by kernel_rfl) ?_
    refine fine_ask O (n := 100000) (q := 12) (by kernel_rfl) ?_
    refine fine_ask O (n := 100000) (q := 4) (by kernel_rfl) ?_
    refine fine_ask O (n := 100000) (q := 8) (by kernel_rfl) ?_
    refine fine_ask O (n := 100000) (q := 3) (by kernel_rfl) ?_
    refine fine_ask O (n := 100000) (q := 3) (by kernel_rfl) ?_
    refine fine_ask O (n := 100000) (q := 3) (by kernel_rfl) ?_
    refine fine_ask O (n := 100000) (q := 3) (by kernel_rfl) ?_
    refine fine_ask O (n := 100000) (q := 3) (by kernel_rfl) ?_
    refine fine_ask O (n := 100000) (q := 3) (by kernel_rfl) ?_
    refine fine_ask O (n := 100000) (q := 8) (by kernel_rfl) ?_
    refine fine_ask O (n := 100000) (q := 62) (by kernel_rfl) ?_
    refine fine_tok O (n := 100000) (q := 1000) (by kernel_rfl) (by kernel_rfl) (fun _ => by kernel_rfl) (fun _ _ => by kernel_rfl) ?_
    intro u tk
    exact fine_true (by kernel_rfl) hR
  · intro P t m p D O hR
    refine fine_go O (n := 100000) (q := 4) ?_
    refine fine_ask O (n := 100000) (q := 12) (by kernel_rfl) ?_
    refine fine_ask O (n := 100000) (q := 12) (by kernel_rfl) ?_
    refine fine_ask O (n := 100000) (q := 4) (by kernel_rfl) ?_
    refine fine_ask O (n := 100000) (q := 8) (by kernel_rfl) ?_
    refine fine_ask O (n := 100000) (q := 3) (by kernel_rfl) ?_
    refine fine_ask O (n := 100000) (q := 3) (by kernel_rfl) ?_
    refine fine_ask O (n := 100000) (q := 3) (by kernel_rfl) ?_
    refine fine_ask O (n := 100000) (q := 3) (by kernel_rfl) ?_
    refine fine_ask O (n := 100000) (q := 3) (by kernel_rfl) ?_
    refine fine_ask O (n := 100000) (q := 3) (by kernel_rfl) ?_
    refine fine_ask O (n := 100000) (q := 8) (by kernel_rfl) ?_
    refine fine_ask O (n := 100000) (q := 62) (by kernel_rfl) ?_
    refine fine_tok O (n := 100000) (q := 1000) (by kernel_rfl) (by kernel_rfl) (fun _ => by kernel_rfl) (fun _ _ => by kernel_rfl) ?_
    intro u tk
    exact fine_true (by kernel_rfl) hR
end Mine

namespace Mine
theorem g03 : RunOk 0 ⟨#[43, 120]⟩ ∧
  RunOk 0 ⟨#[45]⟩ ∧
  RunOk 0 ⟨#[45, 45]⟩ ∧
  RunOk 0 ⟨#[45, 83]⟩ ∧
  RunOk 0 ⟨#[49]⟩ ∧
  RunOk 0 ⟨#[49, 43]⟩ ∧
  RunOk 0 ⟨#[49, 43, 49, 50]⟩ ∧
  RunOk 0 ⟨#[49, 43, 83]⟩ ∧
  RunOk 0 ⟨#[49, 43, 83, 85, 78]⟩ ∧
  RunOk 0 ⟨#[49, 43, 120, 120]⟩ := by
  refine ⟨?_, ?_, ?_, ?_, ?_, ?_, ?_, ?_, ?_, ?_⟩
  · intro P t m p D O hR
    refine fine_go O (n := 100000) (q := 4) ?_
    refine fine_ask O (n := 100000) (q := 12) (by kernel_rfl) ?_
    refine fine_ask O (n := 100000) (q := 12) (by kernel_rfl) ?_
    refine fine_ask O (n := 100000) (q := 4) (by kernel_rfl) ?_
    refine fine_ask O (n := 100000) (q := 8) (by kernel_rfl) ?_
    refine fine_ask O (n := 100000) (q := 3) (by kernel_rfl) ?_
    refine fine_ask O (n := 100000) (q := 3) (by kernel_rfl) ?_
    refine fine_ask O (n := 100000) (q := 3) (by kernel_rfl) ?_
    refine fine_ask O (n := 100000) (q := 3) (by kernel_rfl) ?_
    refine fine_ask O (n := 100000) (q := 3) (by kernel_rfl) ?_
    refine fine_ask O (n := 100000) (q := 3) (by kernel_rfl) ?_
    refine fine_ask O (n := 100000) (q := 8) (by kernel_rfl) ?_
    refine fine_ask O (n := 100000) (q := 62) (by kernel_rfl) ?_
    refine fine_tok O (n := 100000) (q := 1000) (by kernel_rfl) (by kernel_rfl) (fun _ => by kernel_rfl) (fun _ _ => by kernel_rfl) ?_
    intro u tk
    exact fine_true (by kernel_rfl) hR
  · intro P t m p D O hR
    refine fine_go O (n := 100000) (q := 4) ?_
    refine fine_ask O (n := 100000) (q := 12) (by kernel_rfl) ?_
    refine fine_ask O (n := 100000) (q := 12) (by kernel_rfl) ?_
    refine fine_ask O (n := 100000) (q := 4) (by kernel_rfl) ?_
    refine fine_ask O (n := 100000) (q := 8) (by kernel_rfl) ?_
    refine fine_ask O (n := 100000) (q := 3) (by kernel_rfl) ?_
    refine fine_ask O (n := 100000) (q := 3) (by kernel_rfl) ?_
    refine fine_ask O (n := 100000) (q := 3) (by kernel_rfl) ?_
    refine fine_ask O (n := 100000) (q := 3) (by kernel_rfl) ?_
    refine fine_ask O (n := 100000) (q := 3) (by kernel_rfl) ?_
    refine fine_ask O (n := 100000) (q := 3) (by kernel_rfl) ?_
    refine fine_ask O (n := 100000) (q := 8) (by kernel_rfl) ?_
    refine fine_ask O (n := 100000) (q := 62) (by kernel_rfl) ?_
    refine fine_tok O (n := 100000) (q := 1000) (by kernel_rfl) (by kernel_rfl) (fun _ => by kernel_rfl) (fun _ _ => by kernel_rfl) ?_
    intro u tk
    exact fine_true (by kernel_rfl) hR
  · intro P t m p D O hR
    refine fine_go O (n := 100000) (q := 4) ?_
    refine fine_ask O (n := 100000) (q := 12) (by kernel_rfl) ?_
    refine fine_ask O (n := 100000) (q := 12) (by kernel_rfl) ?_
    refine fine_ask O (n := 100000) (q := 4) (by kernel_rfl) ?_
    refine fine_ask O (n := 100000) (q := 8) (by kernel_rfl) ?_
    refine fine_ask O (n := 100000) (q := 3) (by kernel_rfl) ?_
    refine fine_ask O (n := 100000) (q := 3) (by kernel_rfl) ?_
    refine fine_ask O (n := 100000) (q := 3) (by kernel_rfl) ?_
    refine fine_ask O (n := 100000) (q := 3) (by kernel_rfl) ?_
    refine fine_ask O (n := 100000) (q := 3) (by kernel_rfl) ?_
    refine fine_ask O (n := 100000) (q := 3) (by kernel_rfl) ?_
    refine fine_ask O (n := 100000) (q := 8) (by kernel_rfl) ?_
    refine fine_ask O (n := 100000) (q := 62) (by kernel_rfl) ?_
    refine fine_tok O (n := 100000) (q := 1000) (by kernel_rfl) (by kernel_rfl) (fun _ => by kernel_rfl) (fun _ _ => by kernel_rfl) ?_
    intro u tk
    exact fine_true (by kernel_rfl) hR
  · intro P t m p D O hR
    refine fine_go O (n := 100000) (q := 4) ?_
    refine fine_ask O (n := 100000) (q := 12) (by kernel_rfl) ?_
    refine fine_ask O (n := 100000) (q := 12) (by kernel_rfl) ?_
    refine fine_ask O (n := 100000) (q := 4) (by kernel_rfl) ?_
    refine fine_ask O (n := 100000) (q := 8) (by kernel_rfl) ?_
    refine fine_ask O (n := 100000) (q := 3) (by kernel_rfl) ?_
    refine fine_ask O (n := 100000) (q := 3) (by kernel_rfl) ?_
    refine fine_ask O (n := 100000) (q := 3) (by kernel_rfl) ?_
    refine fine_ask O (n := 100000) (q := 3) (by kernel_rfl) ?_
    refine fine_ask O (n := 100000) (q := 3) (by kernel_rfl) ?_
    refine fine_ask O (n := 100000) (q := 3) (by kernel_rfl) ?_
    refine fine_ask O (n := 100000) (q := 8) (by kernel_rfl) ?_
    refine fine_ask O (n := 100000) (q := 62) (by kernel_rfl) ?_
    refine fine_tok O (n := 100000) (q := 1000) (by kernel_rfl) (by kernel_rfl) (fun _ => by kernel_rfl) (fun _ _ => by kernel_rfl) ?_
    intro u tk
    exact fine_true (by kernel_rfl) hR
  · intro P t m p D O hR
    refine fine_go O (n := 100000) (q := 4) ?_
    refine fine_ask O (n := 100000) (q := 12) (by kernel_rfl) ?_
    refine fine_ask O (n := 100000) (q := 12) (by kernel_rfl) ?_
    refine fine_ask O (n := 100000) (q := 4) (by kernel_rfl) ?_
    refine fine_ask O (n := 100000) (q := 8) (by kernel_rfl) ?_
    refine fine_ask O (n := 100000) (q := 3) (by kernel_rfl) ?_
    refine fine_ask O (n := 100000) (q := 3) (by kernel_rfl) ?_
    refine fine_ask O (n := 100000) (q := 3) (by kernel_rfl) ?_
    refine fine_ask O (n := 100000) (q := 3) (by kernel_rfl) ?_
    refine fine_ask O (n := 100000) (q := 3) (by kernel_rfl) ?_
    refine fine_ask O (n := 100000) (q := 3) (by kernel_rfl) ?_
    refine fine_ask O (n := 100000) (q := 8) (by kernel_rfl) ?_
    refine fine_ask O (n := 100000) (q := 62) (by kernel_rfl) ?_
    refine fine_tok O (n := 100000) (q := 1000) (by kernel_rfl) (by kernel_rfl) (fun _ => by kernel_rfl) (fun _ _ => by kernel_rfl) ?_
    intro u tk
    exact fine_true (by kernel_rfl) hR
  · intro P t m p D O hR
    refine fine_go O (n := 100000) (q := 4) ?_
    refine fine_ask O (n := 100000) (q := 12) (by kernel_rfl) ?_
    refine fine_ask O (n := 100000) (q := 12) (by kernel_rfl) ?_
    refine fine_ask O (n := 100000) (q := 4) (by kernel_rfl) ?_
    refine fine_ask O (n := 100000) (q := 8) (by kernel_rfl) ?_
    refine fine_ask O (n := 100000) (q := 3) (by kernel_rfl) ?_
    refine fine_ask O (n := 100000) (q := 3) (by kernel_rfl) ?_
    refine fine_ask O (n := 100000) (q := 3) (by kernel_rfl) ?_
    refine fine_ask O (n := 100000) (q := 3) (by kernel_rfl) ?_
    refine fine_ask O (n := 100000) (q := 3) (by kernel_rfl) ?_
    refine fine_ask O (n := 100000) (q := 3) (by kernel_rfl) ?_
    refine fine_ask O (n := 100000) (q := 8) (by kernel_rfl) ?_
    refine fine_ask O (n := 100000) (q := 62) (by kernel_rfl) ?_
    refine fine_tok O (n := 100000) (q := 1000) (by kernel_rfl) (by kernel_rfl) (fun _ => by kernel_rfl) (fun _ _ => by kernel_rfl) ?_
    intro u tk
    exact fine_true (by kernel_rfl) hR
  · intro P t m p D O hR
    refine fine_go O (n := 100000) (q := 4) ?_
    refine fine_ask O (n := 100000) (q := 12) (by kernel_rfl) ?_
    refine fine_ask O (n := 100000) (q := 12) (by kernel_rfl) ?_
    refine fine_ask O (n := 100000) (q := 4) (by kernel_rfl) ?_
    refine fine_ask O (n := 100000) (q := 8) (by kernel_rfl) ?_
    refine fine_ask O (n := 100000) (q := 3) (by kernel_rfl) ?_
    refine fine_ask O (n := 100000) (q := 3) (by kernel_rfl) ?_
    refine fine_ask O (n := 100000) (q := 3) (by kernel_rfl) ?_
    refine fine_ask O (n := 100000) (q := 3) (by kernel_rfl) ?_
    refine fine_ask O (n := 100000) (q := 3) (by kernel_rfl) ?_
    refine fine_ask O (n := 100000) (q := 3) (by kernel_rfl) ?_
    refine fine_ask O (n := 100000) (q := 8) (by kernel_rfl) ?_
    refine fine_ask O (n := 100000) (q := 62) (by kernel_rfl) ?_
    refine fine_tok O (n := 100000) (q := 1000) (by kernel_rfl) (by kernel_rfl) (fun _ => by kernel_rfl) (fun _ _ => by kernel_rfl) ?_
    intro u tk
    exact fine_true (by kernel_rfl) hR
  · intro P t m p D O hR
    refine fine_go O (n := 100000) (q := 4) ?_
    refine fine_ask O (n := 100000) (q := 12) (by kernel_rfl) ?_
    refine fine_ask O (n := 100000) (q := 12) (by kernel_rfl) ?_
    refine fine_ask O (n := 100000) (q := 4) (by kernel_rfl) ?_
    refine fine_ask O (n := 100000) (q := 8) (by kernel_rfl) ?_
    refine fine_ask O (n := 100000) (q := 3) (by kernel_rfl) ?_
    refine fine_ask O (n := 100000) (q := 3) (by kernel_rfl) ?_
    refine fine_ask O (n := 100000) (q := 3) (by kernel_rfl) ?_
    refine fine_ask O (n := 100000) (q := 3) (by kernel_rfl) ?_
    refine fine_ask O (n := 100000) (q := 3) (by kernel_rfl) ?_
    refine fine_ask O (n := 100000) (q := 3) (by kernel_rfl) ?_
    refine fine_ask O (n := 100000) (q := 8) (by kernel_rfl) ?_
    refine fine_ask O (n := 100000) (q := 62) (by kernel_rfl) ?_
    refine fine_tok O (n := 100000) (q := 1000) (by kernel_rfl) (by kernel_rfl) (fun _ => by kernel_rfl) (fun _ _ => by kernel_rfl) ?_
    intro u tk
    exact fine_true (by kernel_rfl) hR
  · intro P t m p D O hR
    refine fine_go O (n := 100000) (q := 4) ?_
    refine fine_ask O (n := 100000) (q := 12) (by kernel_rfl) ?_
    refine fine_ask O (n := 100000) (q := 12) (by kernel_rfl) ?_
    refine fine_ask O (n := 100000) (q := 4) (by kernel_rfl) ?_
    refine fine_ask O (n := 100000) (q := 8) (by kernel_rfl) ?_
    refine fine_ask O (n := 100000) (q := 3) (by kernel_rfl) ?_
    refine fine_ask O (n := 100000) (q := 3) (by kernel_rfl) ?_
    refine fine_ask O (n := 100000) (q := 3) (by kernel_rfl) ?_
    refine fine_ask O (n := 100000) (q := 3) (by kernel_rfl) ?_
    refine fine_ask O (n := 100000) (q := 3) (by kernel_rfl) ?_
    refine fine_ask O (n := 100000) (q := 3) (by kernel_rfl) ?_
    refine fine_ask O (n := 100000) (q := 8) (by kernel_rfl) ?_
    refine fine_ask O (n := 100000) (q := 62) (by kernel_rfl) ?_
    refine fine_tok O (n := 100000) (q := 1000) (by kernel_rfl) (by kernel_rfl) (fun _ => by kernel_rfl) (fun _ _ => by kernel_rfl) ?_
    intro u tk
    exact fine_true (by kernel_rfl) hR
  · intro P t m p D O hR
    refine fine_go O (n := 100000) (q := 4) ?_
    refine fine_ask O (n := 100000) (q := 12) (by kernel_rfl) ?_
    refine fine_ask O (n := 100000) (q := 12) (by kernel_rfl) ?_
    refine fine_ask O (n := 100000) (q := 4) (by kernel_rfl) ?_
    refine fine_ask O (n := 100000) (q := 8) (by kernel_rfl) ?_
    refine fine_ask O (n := 100000) (q := 3) (by kernel_rfl) ?_
    refine fine_ask O (n := 100000) (q := 3) (by kernel_rfl) ?_
    refine fine_ask O (n := 100000) (q := 3) (by kernel_rfl) ?_
    refine fine_ask O (n := 100000) (q := 3) (by kernel_rfl) ?_
    refine fine_ask O (n := 100000) (q := 3) (by kernel_rfl) ?_
    refine fine_ask O (n := 100000) (q := 3) (by kernel_rfl) ?_
    refine fine_ask O (n := 100000) (q := 8) (by kernel_rfl) ?_
    refine fine_ask O (n := 100000) (q := 62) (by kernel_rfl) ?_
    refine fine_tok O (n := 100000) (q := 1000) (by kernel_rfl) (by kernel_rfl) (fun _ => by kernel_rfl) (fun _ _ => by kernel_rfl) ?_
    intro u tk
    exact fine_true (by kernel_rfl) hR
end Mine

namespace Mine
theorem g04 : RunOk 0 ⟨#[49, 50, 51, 49, 50]⟩ ∧
  RunOk 0 ⟨#[49, 50, 51, 83, 85, 78]⟩ ∧
  RunOk 0 ⟨#[49, 50, 51, 120, 120]⟩ ∧
  RunOk 0 ⟨#[49, 83, 85, 78]⟩ ∧
  RunOk 0 ⟨#[57]⟩ ∧
  RunOk 0 ⟨#[57, 83, 85, 78]⟩ ∧
  RunOk 0 ⟨#[83]⟩ ∧
  RunOk 0 ⟨#[83, 85, 78]⟩ ∧
  RunOk 0 ⟨#[49, 43, 83, 65]⟩ ∧
  RunOk 0 ⟨#[49, 43, 83, 85]⟩ := by
  refine ⟨?_, ?_, ?_, ?_, ?_, ?_, ?_, ?_, ?_, ?_⟩
  · intro P t m p D O hR
    refine fine_go O (n := 100000) (q := 4) ?_
    refine fine_ask O (n := 100000) (q := 12) (by kernel_rfl) ?_
    refine fine_ask O (n := 100000) (q := 12) (by kernel_rfl) ?_
    refine fine_ask O (n := 100000) (q := 4) (by kernel_rfl) ?_
    refine fine_ask O (n := 100000) (q := 8) (by kernel_rfl) ?_
    refine fine_ask O (n := 100000) (q := 3) (by kernel_rfl) ?_
    refine fine_ask O (n := 100000) (q := 3) (by kernel_rfl) ?_
    refine fine_ask O (n := 100000) (q := 3) (by kernel_rfl) ?_
    refine fine_ask O (n := 100000) (q := 3) (by kernel_rfl) ?_
    refine fine_ask O (n := 100000) (q := 3) (by kernel_rfl) ?_
    refine fine_ask O (n := 100000) (q := 3) (by kernel_rfl) ?_
    refine fine_ask O (n := 100000) (q := 8) (by kernel_rfl) ?_
    refine fine_ask O (n := 100000) (q := 62) (by kernel_rfl) ?_
    refine fine_tok O (n := 100000) (q := 1000) (by kernel_rfl) (by kernel_rfl) (fun _ => by kernel_rfl) (fun _ _ => by kernel_rfl) ?_
    intro u tk
    exact fine_true (by kernel_rfl) hR
  · intro P t m p D O hR
    refine fine_go O (n := 100000) (q := 4) ?_
    refine fine_ask O (n := 100000) (q := 12) (by kernel_rfl) ?_
    refine fine_ask O (n := 100000) (q := 12) (by kernel_rfl) ?_
    refine fine_ask O (n := 100000) (q := 4) (by kernel_rfl) ?_
    refine fine_ask O (n := 100000) (q := 8) (by kernel_rfl) ?_
    refine fine_ask O (n := 100000) (q := 3) (by kernel_rfl) ?_
    refine fine_ask O (n := 100000) (q := 3) (by kernel_rfl) ?_
    refine fine_ask O (n := 100000) (q := 3) (by kernel_rfl) ?_
    refine fine_ask O (n := 100000) (q := 3) (by kernel_rfl) ?_
    refine fine_ask O (n := 100000) (q := 3) (by kernel_rfl) ?_
    refine fine_ask O (n := 100000) (q := 3) (by kernel_rfl) ?_
    refine fine_ask O (n := 100000) (q := 8) (by kernel_rfl) ?_
    refine fine_ask O (n := 100000) (q := 62) (by kernel_rfl) ?_
    refine fine_tok O (n := 100000) (q := 1000) (by kernel_rfl) (by kernel_rfl) (fun _ => by kernel_rfl) (fun _ _ => by kernel_rfl) ?_
    intro u tk
    exact fine_true (by kernel_rfl) hR
  · intro P t m p D O hR
    refine fine_go O (n := 100000) (q := 4) ?_
    refine fine_ask O (n := 100000) (q := 12) (by kernel_rfl) ?_
    refine fine_ask O (n := 100000) (q := 12) (by kernel_rfl) ?_
    refine fine_ask O (n := 100000) (q := 4) (by kernel_rfl) ?_
    refine fine_ask O (n := 100000) (q := 8) (by kernel_rfl) ?_
    refine fine_ask O (n := 100000) (q := 3) (by kernel_rfl) ?_
    refine fine_ask O (n := 100000) (q := 3) (by kernel_rfl) ?_
    refine fine_ask O (n := 100000) (q := 3) (by kernel_rfl) ?_
    refine fine_ask O (n := 100000) (q := 3) (by kernel_rfl) ?_
    refine fine_ask O (n := 100000) (q := 3) (by kernel_rfl) ?_
    refine fine_ask O (n := 100000) (q := 3) (by kernel_rfl) ?_
    refine fine_ask O (n := 100000) (q := 8) (by kernel_rfl) ?_
    refine fine_ask O (n := 100000) (q := 62) (by kernel_rfl) ?_
    refine fine_tok O (n := 100000) (q := 1000) (by kernel_rfl) (by kernel_rfl) (fun _ => by kernel_rfl) (fun _ _ => by kernel_rfl) ?_
    intro u tk
    exact fine_true (by kernel_rfl) hR
  · intro P t m p D O hR
    refine fine_go O (n := 100000) (q := 4) ?_
    refine fine_ask O (n := 100000) (q := 12) (by kernel_rfl) ?_
    refine fine_ask O (n := 100000) (q := 12) (by kernel_rfl) ?_
    refine fine_ask O (n := 100000) (q := 4) (by kernel_rfl) ?_
    refine fine_ask O (n := 100000) (q := 8) (by kernel_rfl) ?_
    refine fine_ask O (n := 100000) (q := 3) (by kernel_rfl) ?_
    refine fine_ask O (n := 100000) (q := 3) (by kernel_rfl) ?_
    refine fine_ask O (n := 100000) (q := 3) (by kernel_rfl) ?_
    refine fine_ask O (n := 100000) (q := 3) (by kernel_rfl) ?_
    refine fine_ask O (n := 100000) (q := 3) (by kernel_rfl) ?_
    refine fine_ask O (n := 100000) (q := 3) (by kernel_rfl) ?_
    refine fine_ask O (n := 100000) (q := 8) (by kernel_rfl) ?_
    refine fine_ask O (n := 100000) (q := 62) (by kernel_rfl) ?_
    refine fine_tok O (n := 100000) (q := 1000) (by kernel_rfl) (by kernel_rfl) (fun _ => by kernel_rfl) (fun _ _ => by kernel_rfl) ?_
    intro u tk
    exact fine_true (by kernel_rfl) hR
  · intro P t m p D O hR
    refine fine_go O (n := 100000) (q := 4) ?_
    refine fine_ask O (n := 100000) (q := 12) (by kernel_rfl) ?_
    refine fine_ask O (n := 100000) (q := 12) (by kernel_rfl) ?_
    refine fine_ask O (n := 100000) (q := 4) (by kernel_rfl) ?_
    refine fine_ask O (n := 100000) (q := 8) (by kernel_rfl) ?_
    refine fine_ask O (n := 100000) (q := 3) (by kernel_rfl) ?_
    refine fine_ask O (n := 100000) (q := 3) (by kernel_rfl) ?_
    refine fine_ask O (n := 100000) (q := 3) (by kernel_rfl) ?_
    refine fine_ask O (n := 100000) (q := 3) (by kernel_rfl) ?_
    refine fine_ask O (n := 100000) (q := 3) (by kernel_rfl) ?_
    refine fine_ask O (n := 100000) (q := 3) (by kernel_rfl) ?_
    refine fine_ask O (n := 100000) (q := 8) (by kernel_rfl) ?_
    refine fine_ask O (n := 100000) (q := 62) (by kernel_rfl) ?_
    refine fine_tok O (n := 100000) (q := 1000) (by kernel_rfl) (by kernel_rfl) (fun _ => by kernel_rfl) (fun _ _ => by kernel_rfl) ?_
    intro u tk
    exact fine_true (by kernel_rfl) hR
  · intro P t m p D O hR
    refine fine_go O (n := 100000) (q := 4) ?_
    refine fine_ask O (n := 100000) (q := 12) (by kernel_rfl) ?_
    refine fine_ask O (n := 100000) (q := 12) (by kernel_rfl) ?_
    refine fine_ask O (n := 100000) (q := 4) (by kernel_rfl) ?_
    refine fine_ask O (n := 100000) (q := 8) (by kernel_rfl) ?_
    refine fine_ask O (n := 100000) (q := 3) (by kernel_rfl) ?_
    refine fine_ask O (n := 100000) (q := 3) (by kernel_rfl) ?_
    refine fine_ask O (n := 100000) (q := 3) (by kernel_rfl) ?_
    refine fine_ask O (n := 100000) (q := 3) (by kernel_rfl) ?_
    refine fine_ask O (n := 100000) (q := 3) (by kernel_rfl) ?_
    refine fine_ask O (n := 100000) (q := 3) (by kernel_rfl) ?_
    refine fine_ask O (n := 100000) (q := 8) (by kernel_rfl) ?_
    refine fine_ask O (n := 100000) (q := 62) (by kernel_rfl) ?_
    refine fine_tok O (n := 100000) (q := 1000) (by kernel_rfl) (by kernel_rfl) (fun _ => by kernel_rfl) (fun _ _ => by kernel_rfl) ?_
    intro u tk
    exact fine_true (by kernel_rfl) hR
  · intro P t m p D O hR
    refine fine_go O (n := 100000) (q := 4) ?_
    refine fine_ask O (n := 100000) (q := 12) (by kernel_rfl) ?_
    refine fine_ask O (n := 100000) (q := 12) (by kernel_rfl) ?_
    refine fine_ask O (n := 100000) (q := 4) (by kernel_rfl) ?_
    refine fine_ask O (n := 100000) (q := 8) (by kernel_rfl) ?_
    refine fine_ask O (n := 100000) (q := 3) (by kernel_rfl) ?_
    refine fine_ask O (n := 100000) (q := 3) (by kernel_rfl) ?_
    refine fine_ask O (n := 100000) (q := 3) (by kernel_rfl) ?_
    refine fine_ask O (n := 100000) (q := 3) (by kernel_rfl) ?_
    refine fine_ask O (n := 100000) (q := 3) (by kernel_rfl) ?_
    refine fine_ask O (n := 100000) (q := 3) (by kernel_rfl) ?_
    refine fine_ask O (n := 100000) (q := 8) (by kernel_rfl) ?_
    refine fine_ask O (n := 100000) (q := 62) (by kernel_rfl) ?_
    refine fine_tok O (n := 100000) (q := 1000) (by kernel_rfl) (by kernel_rfl) (fun _ => by kernel_rfl) (fun _ _ => by kernel_rfl) ?_
    intro u tk
    exact fine_true (by kernel_rfl) hR
  · intro P t m p D O hR
    refine fine_go O (n := 100000) (q := 4) ?_
    refine fine_ask O (n := 100000) (q := 12) (by kernel_rfl) ?_
    refine fine_ask O (n := 100000) (q := 12) (by kernel_rfl) ?_
    refine fine_ask O (n := 100000) (q := 4) (by kernel_rfl) ?_
    refine fine_ask O (n := 100000) (q := 8) (by kernel_rfl) ?_
    refine fine_ask O (n := 100000) (q := 3) (by kernel_rfl) ?_
    refine fine_ask O (n := 100000) (q := 3) (by kernel_rfl) ?_
    refine fine_ask O (n := 100000) (q := 3) (by kernel_rfl) ?_
    refine fine_ask O (n := 100000) (q := 3) (by kernel_rfl) ?_
    refine fine_ask O (n := 100000) (q := 3) (by kernel_rfl) ?_
    refine fine_ask O (n := 100000) (q := 3) (by kernel_rfl) ?_
    refine fine_ask O (n := 100000) (q := 8) (by kernel_rfl) ?_
    refine fine_ask O (n := 100000) (q := 62) (by kernel_rfl) ?_
    refine fine_tok O (n := 100000) (q := 1000) (by kernel_rfl) (by kernel_rfl) (fun _ => by kernel_rfl) (fun _ _ => by kernel_rfl) ?_
    intro u tk
    exact fine_true (by kernel_rfl) hR
  · intro P t m p D O hR
    refine fine_go O (n := 100000) (q := 4) ?_
    refine fine_ask O (n := 100000) (q := 12) (by kernel_rfl) ?_
    refine fine_ask O (n := 100000) (q := 12) (by kernel_rfl) ?_
    refine fine_ask O (n := 100000) (q := 4) (by kernel_rfl) ?_
    refine fine_ask O (n := 100000) (q := 6) (by kernel_rfl) ?_
    refine fine_contains O (n := 100000) (q := 4) 626 ⟨#[83, 65]⟩ (Nat.add (St.t₀ (V2 P t)) 9) (by kernel_rfl) (by kernel_rfl) ?_
    refine fine_ask O (n := 100000) (q := 2) (by kernel_rfl) ?_
    refine fine_ask O (n := 100000) (q := 5) (by kernel_rfl) ?_
    refine fine_ask O (n := 100000) (q := 2) (by kernel_rfl) ?_
    refine fine_ask O (n := 100000) (q := 2) (by kernel_rfl) ?_
    refine fine_call O (n := 100000) (n' := 100000) (q := 0) (fun b c => by cases b <;> cases c <;> kernel_rfl) ?_
    refine fine_ask O (n := 100000) (q := 7) (by kernel_rfl) ?_
    refine fine_ask O (n := 100000) (q := 62) (by kernel_rfl) ?_
    refine fine_tok O (n := 100000) (q := 1000) (by kernel_rfl) (by kernel_rfl) (fun _ => by kernel_rfl) (fun _ _ => by kernel_rfl) ?_
    intro u tk
    exact fine_true (by kernel_rfl) hR
  · intro P t m p D O hR
    refine fine_go O (n := 100000) (q := 4) ?_
    refine fine_ask O (n := 100000) (q := 12) (by kernel_rfl) ?_
    refine fine_ask O (n := 100000) (q := 12) (by kernel_rfl) ?_
    refine fine_ask O (n := 100000) (q := 4) (by kernel_rfl) ?_
    refine fine_ask O (n := 100000) (q := 6) (by kernel_rfl) ?_
    refine fine_contains O (n := 100000) (q := 4) 626 ⟨#[83, 85]⟩ (Nat.add (St.t₀ (V2 P t)) 9) (by kernel_rfl) (by kernel_rfl) ?_
    refine fine_ask O (n := 100000) (q := 2) (by kernel_rfl) ?_
    refine fine_ask O (n := 100000) (q := 5) (by kernel_rfl) ?_
    refine fine_ask O (n := 100000) (q := 2) (by kernel_rfl) ?_
    refine fine_ask O (n := 100000) (q := 2) (by kernel_rfl) ?_
    refine fine_call O (n := 100000) (n' := 100000) (q := 0) (fun b c => by cases b <;> cases c <;> kernel_rfl) ?_
    refine fine_ask O (n := 100000) (q := 7) (by kernel_rfl) ?_
    refine fine_ask O (n := 100000) (q := 62) (by kernel_rfl) ?_
    refine fine_tok O (n := 100000) (q := 1000) (by kernel_rfl) (by kernel_rfl) (fun _ => by kernel_rfl) (fun _ _ => by kernel_rfl) ?_
    intro u tk
    exact fine_true (by kernel_rfl) hR
end Mine

namespace Mine
theorem g05 : RunOk 0 ⟨#[49, 43, 84, 72]⟩ ∧
  RunOk 0 ⟨#[49, 43, 84, 117]⟩ ∧
  RunOk 0 ⟨#[49, 43, 102, 114]⟩ ∧
  RunOk 0 ⟨#[49, 43, 109, 111]⟩ ∧
  RunOk 0 ⟨#[49, 43, 119, 69]⟩ ∧
  RunOk 0 ⟨#[45, 45, 83, 65]⟩ ∧
  RunOk 0 ⟨#[45, 45, 83, 85]⟩ ∧
  RunOk 0 ⟨#[45, 45, 84, 72]⟩ ∧
  RunOk 0 ⟨#[45, 45, 84, 117]⟩ ∧
  RunOk 0 ⟨#[45, 45, 102, 114]⟩ := by
  refine ⟨?_, ?_, ?_, ?_, ?_, ?_, ?_, ?_, ?_, ?_⟩
  · intro P t m p D O hR
    refine fine_go O (n := 100000) (q := 4) ?_
    refine fine_ask O (n := 100000) (q := 12) (by kernel_rfl) ?_
    refine fine_ask O (n := 100000) (q := 12) (by kernel_rfl) ?_
    refine fine_ask O (n := 100000) (q := 4) (by kernel_rfl) ?_
    refine fine_ask O (n := 100000) (q := 6) (by kernel_rfl) ?_
    refine fine_contains O (n := 100000) (q := 4) 626 ⟨#[84, 72]⟩ (Nat.add (St.t₀ (V2 P t)) 9) (by kernel_rfl) (by kernel_rfl) ?_
    refine fine_ask O (n := 100000) (q := 2) (by kernel_rfl) ?_
    refine fine_ask O (n := 100000) (q := 5) (by kernel_rfl) ?_
    refine fine_ask O (n := 100000) (q := 2) (by kernel_rfl) ?_
    refine fine_ask O (n := 100000) (q := 2) (by kernel_rfl) ?_
    refine fine_call O (n := 100000) (n' := 100000) (q := 0) (fun b c => by cases b <;> cases c <;> kernel_rfl) ?_
    refine fine_ask O (n := 100000) (q := 7) (by kernel_rfl) ?_
    refine fine_ask O (n := 100000) (q := 62) (by kernel_rfl) ?_
    refine fine_tok O (n := 100000) (q := 1000) (by kernel_rfl) (by kernel_rfl) (fun _ => by kernel_rfl) (fun _ _ => by kernel_rfl) ?_
    intro u tk
    exact fine_true (by kernel_rfl) hR
  · intro P t m p D O hR
    refine fine_go O (n := 100000) (q := 4) ?_
    refine fine_ask O (n := 100000) (q := 12) (by kernel_rfl) ?_
    refine fine_ask O (n := 100000) (q := 12) (by kernel_rfl) ?_
    refine fine_ask O (n := 100000) (q := 4) (by kernel_rfl) ?_
    refine fine_ask O (n := 100000) (q := 6) (by kernel_rfl) ?_
    refine fine_contains O (n := 100000) (q := 4) 626 ⟨#[84, 85]⟩ (Nat.add (St.t₀ (V2 P t)) 9) (by kernel_rfl) (by kernel_rfl) ?_
    refine fine_ask O (n := 100000) (q := 2) (by kernel_rfl) ?_
    refine fine_ask O (n := 100000) (q := 5) (by kernel_rfl) ?_
    refine fine_ask O (n := 100000) (q := 2) (by kernel_rfl) ?_
    refine fine_ask O (n := 100000) (q := 2) (by kernel_rfl) ?_
    refine fine_call O (n := 100000) (n' := 100000) (q := 0) (fun b c => by cases b <;> cases c <;> kernel_rfl) ?_
    refine fine_ask O (n := 100000) (q := 7) (by kernel_rfl) ?_
    refine fine_ask O (n := 100000) (q := 62) (by kernel_rfl) ?_
    refine fine_tok O (n := 100000) (q := 1000) (by kernel_rfl) (by kernel_rfl) (fun _ => by kernel_rfl) (fun _ _ => by kernel_rfl) ?_
    intro u tk
    exact fine_true (by kernel_rfl) hR
  · intro P t m p D O hR
    refine fine_go O (n := 100000) (q := 4) ?_
    refine fine_ask O (n := 100000) (q := 12) (by kernel_rfl) ?_
    refine fine_ask O (n := 100000) (q := 12) (by kernel_rfl) ?_
    refine fine_ask O (n := 100000) (q := 4) (by kernel_rfl) ?_
    refine fine_ask O (n := 100000) (q := 6) (by kernel_rfl) ?_
    refine fine_contains O (n := 100000) (q := 4) 626 ⟨#[70, 82]⟩ (Nat.add (St.t₀ (V2 P t)) 9) (by kernel_rfl) (by kernel_rfl) ?_
    refine fine_ask O (n := 100000) (q := 2) (by kernel_rfl) ?_
    refine fine_ask O (n := 100000) (q := 5) (by kernel_rfl) ?_
    refine fine_ask O (n := 100000) (q := 2) (by kernel_rfl) ?_
    refine fine_ask O (n := 100000) (q := 2) (by kernel_rfl) ?_
    refine fine_call O (n := 100000) (n' := 100000) (q := 0) (fun b c => by cases b <;> cases c <;> kernel_rfl) ?_
    refine fine_ask O (n := 100000) (q := 7) (by kernel_rfl) ?_
    refine fine_ask O (n := 100000) (q := 62) (by kernel_rfl) ?_
    refine fine_tok O (n := 100000) (q := 1000) (by kernel_rfl) (by kernel_rfl) (fun _ => by kernel_rfl) (fun _ _ => by kernel_rfl) ?_
    intro u tk
    exact fine_true (by kernel_rfl) hR
  · intro P t m p D O hR
    refine fine_go O (n := 100000) (q := 4) ?_
    refine fine_ask O (n := 100000) (q := 12) (by kernel_rfl) ?_
    refine fine_ask O (n := 100000) (q := 12) (by kernel_rfl) ?_
    refine fine_ask O (n := 100000) (q := 4) (by kernel_rfl) ?_
    refine fine_ask O (n := 100000) (q := 6) (by kernel_rfl) ?_
    refine fine_contains O (n := 100000) (q := 4) 626 ⟨#[77, 79]⟩ (Nat.add (St.t₀ (V2 P t)) 9) (by kernel_rfl) (by kernel_rfl) ?_
    refine fine_ask O (n := 100000) (q := 2) (by kernel_rfl) ?_
    refine fine_ask O (n := 100000) (q := 5) (by kernel_rfl) ?_
    refine fine_ask O (n := 100000) (q := 2) (by kernel_rfl) ?_
    refine fine_ask O (n := 100000) (q := 2) (by kernel_rfl) ?_
    refine fine_call O (n := 100000) (n' := 100000) (q := 0) (fun b c => by cases b <;> cases c <;> kernel_rfl) ?_
    refine fine_ask O (n := 100000) (q := 7) (by kernel_rfl) ?_
    refine fine_ask O (n := 100000) (q := 62) (by kernel_rfl) ?_
    refine fine_tok O (n := 100000) (q := 1000) (by kernel_rfl) (by kernel_rfl) (fun _ => by kernel_rfl) (fun _ _ => by kernel_rfl) ?_
    intro u tk
    exact fine_true (by kernel_rfl) hR
  · intro P t m p D O hR
    refine fine_go O (n := 100000) (q := 4) ?_
    refine fine_ask O (n := 100000) (q := 12) (by kernel_rfl) ?_
    refine fine_ask O (n := 100000) (q := 12) (by kernel_rfl) ?_
    refine fine_ask O (n := 100000) (q := 4) (by kernel_rfl) ?_
    refine fine_ask O (n := 100000) (q := 6) (by kernel_rfl) ?_
    refine fine_contains O (n := 100000) (q := 4) 626 ⟨#[87, 69]⟩ (Nat.add (St.t₀ (V2 P t)) 9) (by kernel_rfl) (by kernel_rfl) ?_
    refine fine_ask O (n := 100000) (q := 2) (by kernel_rfl) ?_
    refine fine_ask O (n := 100000) (q := 5) (by kernel_rfl) ?_
    refine fine_ask O (n := 100000) (q := 2) (by kernel_rfl) ?_
    refine fine_ask O (n := 100000) (q := 2) (by kernel_rfl) ?_
    refine fine_call O (n := 100000) (n' := 100000) (q := 0) (fun b c => by cases b <;> cases c <;> kernel_rfl) ?_
    refine fine_ask O (n := 100000) (q := 7) (by kernel_rfl) ?_
    refine fine_ask O (n := 100000) (q := 62) (by kernel_rfl) ?_
    refine fine_tok O (n := 100000) (q := 1000) (by kernel_rfl) (by kernel_rfl) (fun _ => by kernel_rfl) (fun _ _ => by kernel_rfl) ?_
    intro u tk
    exact fine_true (by kernel_rfl) hR
  · intro P t m p D O hR
    refine fine_go O (n := 100000) (q := 4) ?_
    refine fine_ask O (n := 100000) (q := 12) (by kernel_rfl) ?_
    refine fine_ask O (n := 100000) (q := 12) (by kernel_rfl) ?_
    refine fine_ask O (n := 100000) (q := 4) (by kernel_rfl) ?_
    refine fine_ask O (n := 100000) (q := 8) (by kernel_rfl) ?_
    refine fine_contains O (n := 100000) (q := 4) 627 ⟨#[83, 65]⟩ (Nat.add (St.t₀ (V2 P t)) 9) (by kernel_rfl) (by kernel_rfl) ?_
    refine fine_ask O (n := 100000) (q := 2) (by kernel_rfl) ?_
    refine fine_ask O (n := 100000) (q := 5) (by kernel_rfl) ?_
    refine fine_ask O (n := 100000) (q := 2) (by kernel_rfl) ?_
    refine fine_ask O (n := 100000) (q := 2) (by kernel_rfl) ?_
    refine fine_call O (n := 100000) (n' := 100000) (q := 0) (fun b c => by cases b <;> cases c <;> kernel_rfl) ?_
    refine fine_ask O (n := 100000) (q := 7) (by kernel_rfl) ?_
    refine fine_ask O (n := 100000) (q := 62) (by kernel_rfl) ?_
    refine fine_tok O (n := 100000) (q := 1000) (by kernel_rfl) (by kernel_rfl) (fun _ => by kernel_rfl) (fun _ _ => by kernel_rfl) ?_
    intro u tk
    exact fine_true (by kernel_rfl) hR
  · intro P t m p D O hR
    refine fine_go O (n := 100000) (q := 4) ?_
    refine fine_ask O (n := 100000) (q := 12) (by kernel_rfl) ?_
    refine fine_ask O (n := 100000) (q := 12) (by kernel_rfl) ?_
    refine fine_ask O (n := 100000) (q := 4) (by kernel_rfl) ?_
    refine fine_ask O (n := 100000) (q := 8) (by kernel_rfl) ?_
    refine fine_contains O (n := 100000) (q := 4) 627 ⟨#[83, 85]⟩ (Nat.add (St.t₀ (V2 P t)) 9) (by kernel_rfl) (by kernel_rfl) ?_
    refine fine_ask O (n := 100000) (q := 2) (by kernel_rfl) ?_
    refine fine_ask O (n := 100000) (q := 5) (by kernel_rfl) ?_
    refine fine_ask O (n := 100000) (q := 2) (by kernel_rfl) ?_
    refine fine_ask O (n := 100000) (q := 2) (by kernel_rfl) ?_
    refine fine_call O (n := 100000) (n' := 100000) (q := 0) (fun b c => by cases b <;> cases c <;> kernel_rfl) ?_
    refine fine_ask O (n := 100000) (q := 7) (by kernel_rfl) ?_
    refine fine_ask O (n := 100000) (q := 62) (by kernel_rfl) ?_
    refine fine_tok O (n := 100000) (q := 1000) (by kernel_rfl) (by kernel_rfl) (fun _ => by kernel_rfl) (fun _ _ => by kernel_rfl) ?_
    intro u tk
    exact fine_true (by kernel_rfl) hR
  · intro P t m p D O hR
    refine fine_go O (n := 100000) (q := 4) ?_
    refine fine_ask O (n := 100000) (q := 12) (by kernel_rfl) ?_
    refine fine_ask O (n := 100000) (q := 12) (by kernel_rfl) ?_
    refine fine_ask O (n := 100000) (q := 4) (by kernel_rfl) ?_
    refine fine_ask O (n := 100000) (q := 8) (by kernel_rfl) ?_
    refine fine_contains O (n := 100000) (q := 4) 627 ⟨#[84, 72]⟩ (Nat.add (St.t₀ (V2 P t)) 9) (by kernel_rfl) (by kernel_rfl) ?_
    refine fine_ask O (n := 100000) (q := 2) (by kernel_rfl) ?_
    refine fine_ask O (n := 100000) (q := 5) (by kernel_rfl) ?_
    refine fine_ask O (n := 100000) (q := 2) (by kernel_rfl) ?_
    refine fine_ask O (n := 100000) (q := 2) (by kernel_rfl) ?_
    refine fine_call O (n := 100000) (n' := 100000) (q := 0) (fun b c => by cases b <;> cases c <;> kernel_rfl) ?_
    refine fine_ask O (n := 100000) (q := 7) (by kernel_rfl) ?_
    refine fine_ask O (n := 100000) (q := 62) (by kernel_rfl) ?_
    refine fine_tok O (n := 100000) (q := 1000) (by kernel_rfl) (by kernel_rfl) (fun _ => by kernel_rfl) (fun _ _ => by kernel_rfl) ?_
    intro u tk
    exact fine_true (by kernel_rfl) hR
  · intro P t m p D O hR
    refine fine_go O (n := 100000) (q := 4) ?_
    refine fine_ask O (n := 100000) (q := 12) (by kernel_rfl) ?_
    refine fine_ask O (n := 100000) (q := 12) (by kernel_rfl) ?_
    refine fine_ask O (n := 100000) (q := 4) (by kernel_rfl) ?_
    refine fine_ask O (n := 100000) (q := 8) (by kernel_rfl) ?_
    refine fine_contains O (n := 100000) (q := 4) 627 ⟨#[84, 85]⟩ (Nat.add (St.t₀ (V2 P t)) 9) (by kernel_rfl) (by kernel_rfl) ?_
    refine fine_ask O (n := 100000) (q := 2) (by kernel_rfl) ?_
    refine fine_ask O (n := 100000) (q := 5) (by kernel_rfl) ?_
    refine fine_ask O (n := 100000) (q := 2) (by kernel_rfl) ?_
    refine fine_ask O (n := 100000) (q := 2) (by kernel_rfl) ?_
    refine fine_call O (n := 100000) (n' := 100000) (q := 0) (fun b c => by cases b <;> cases c <;> kernel_rfl) ?_
    refine fine_ask O (n := 100000) (q := 7) (by kernel_rfl) ?_
    refine fine_ask O (n := 100000) (q := 62) (by kernel_rfl) ?_
    refine fine_tok O (n := 100000) (q := 1000) (by kernel_rfl) (by kernel_rfl) (fun _ => by kernel_rfl) (fun _ _ => by kernel_rfl) ?_
    intro u tk
    exact fine_true (by kernel_rfl) hR
  · intro P t m p D O hR
    refine fine_go O (n := 100000) (q := 4) ?_
    refine fine_ask O (n := 100000) (q := 12) (by kernel_rfl) ?_
    refine fine_ask O (n := 100000) (q := 12) (by kernel_rfl) ?_
    refine fine_ask O (n := 100000) (q := 4) (by kernel_rfl) ?_
    refine fine_ask O (n := 100000) (q := 8) (by kernel_rfl) ?_
    refine fine_contains O (n := 100000) (q := 4) 627 ⟨#[70, 82]⟩ (Nat.add (St.t₀ (V2 P t)) 9) (by kernel_rfl) (by kernel_rfl) ?_
    refine fine_ask O (n := 100000) (q := 2) (by kernel_rfl) ?_
    refine fine_ask O (n := 100000) (q := 5) (by kernel_rfl) ?_
    refine fine_ask O (n := 100000) (q := 2) (by kernel_rfl) ?_
    refine fine_ask O (n := 100000) (q := 2) (by kernel_rfl) ?_
    refine fine_call O (n := 100000) (n' := 100000) (q := 0) (fun b c => by cases b <;> cases c <;> kernel_rfl) ?_
    refine fine_ask O (n := 100000) (q := 7) (by kernel_rfl) ?_
    refine fine_ask O (n := 100000) (q := 62) (by kernel_rfl) ?_
    refine fine_tok O (n := 100000) (q := 1000) (by kernel_rfl) (by kernel_rfl) (fun _ => by kernel_rfl) (fun _ _ => by kernel_rfl) ?_
    intro u tk
    exact fine_true (by kernel_rfl) hR
end Mine

namespace Mine
theorem g06 : RunOk 0 ⟨#[45, 45, 109, 111]⟩ ∧
  RunOk 0 ⟨#[45, 45, 119, 69]⟩ ∧
  RunOk 0 ⟨#[43, 48, 49, 50]⟩ ∧
  RunOk 0 ⟨#[43, 48, 83]⟩ ∧
  RunOk 0 ⟨#[43, 48, 120, 120]⟩ ∧
  RunOk 0 ⟨#[43, 49, 50]⟩ ∧
  RunOk 0 ⟨#[43, 120, 83]⟩ ∧
  RunOk 0 ⟨#[43, 120, 120]⟩ ∧
  RunOk 0 ⟨#[45, 48, 48]⟩ ∧
  RunOk 0 ⟨#[45, 48, 48, 49, 50]⟩ := by
  refine ⟨?_, ?_, ?_, ?_, ?_, ?_, ?_, ?_, ?_, ?_⟩
  · intro P t m p D O hR
    refine fine_go O (n := 100000) (q := 4) ?_
    refine fine_ask O (n := 100000) (q := 12) (by kernel_rfl) ?_
    refine fine_ask O (n := 100000) (q := 12) (by kernel_rfl) ?_
    refine fine_ask O (n := 100000) (q := 4) (by kernel_rfl) ?_
    refine fine_ask O (n := 100000) (q := 8) (by kernel_rfl) ?_
    refine fine_contains O (n := 100000) (q := 4) 627 ⟨#[77, 79]⟩ (Nat.add (St.t₀ (V2 P t)) 9) (by kernel_rfl) (by kernel_rfl) ?_
    refine fine_ask O (n := 100000) (q := 2) (by kernel_rfl) ?_
    refine fine_ask O (n := 100000) (q := 5) (by kernel_rfl) ?_
    refine fine_ask O (n := 100000) (q := 2) (by kernel_rfl) ?_
    refine fine_ask O (n := 100000) (q := 2) (by kernel_rfl) ?_
    refine fine_call O (n := 100000) (n' := 100000) (q := 0) (fun b c => by cases b <;> cases c <;> kernel_rfl) ?_
    refine fine_ask O (n := 100000) (q := 7) (by kernel_rfl) ?_
    refine fine_ask O (n := 100000) (q := 62) (by kernel_rfl) ?_
    refine fine_tok O (n := 100000) (q := 1000) (by kernel_rfl) (by kernel_rfl) (fun _ => by kernel_rfl) (fun _ _ => by kernel_rfl) ?_
    intro u tk
    exact fine_true (by kernel_rfl) hR
  · intro P t m p D O hR
    refine fine_go O (n := 100000) (q := 4) ?_
    refine fine_ask O (n := 100000) (q := 12) (by kernel_rfl) ?_
    refine fine_ask O (n := 100000) (q := 12) (by kernel_rfl) ?_
    refine fine_ask O (n := 100000) (q := 4) (by kernel_rfl) ?_
    refine fine_ask O (n := 100000) (q := 8) (by kernel_rfl) ?_
    refine fine_contains O (n := 100000) (q := 4) 627 ⟨#[87, 69]⟩ (Nat.add (St.t₀ (V2 P t)) 9) (by kernel_rfl) (by kernel_rfl) ?_
    refine fine_ask O (n := 100000) (q := 2) (by kernel_rfl) ?_
    refine fine_ask O (n := 100000) (q := 5) (by kernel_rfl) ?_
    refine fine_ask O (n := 100000) (q := 2) (by kernel_rfl) ?_
    refine fine_ask O (n := 100000) (q := 2) (by kernel_rfl) ?_
    refine fine_call O (n := 100000) (n' := 100000) (q := 0) (fun b c => by cases b <;> cases c <;> kernel_rfl) ?_
    refine fine_ask O (n := 100000) (q := 7) (by kernel_rfl) ?_
    refine fine_ask O (n := 100000) (q := 62) (by kernel_rfl) ?_
    refine fine_tok O (n := 100000) (q := 1000) (by kernel_rfl) (by kernel_rfl) (fun _ => by kernel_rfl) (fun _ _ => by kernel_rfl) ?_
    intro u tk
    exact fine_true (by kernel_rfl) hR
  · intro P t m p D O hR
    refine fine_go O (n := 100000) (q := 4) ?_
    refine fine_ask O (n := 100000) (q := 12) (by kernel_rfl) ?_
    refine fine_ask O (n := 100000) (q := 12) (by kernel_rfl) ?_
    refine fine_ask O (n := 100000) (q := 10) (by kernel_rfl) ?_
    refine fine_ask O (n := 100000) (q := 3) (by kernel_rfl) ?_
    refine fine_ask O (n := 100000) (q := 3) (by kernel_rfl) ?_
    refine fine_ask O (n := 100000) (q := 3) (by kernel_rfl) ?_
    refine fine_ask O (n := 100000) (q := 3) (by kernel_rfl) ?_
    refine fine_ask O (n := 100000) (q := 3) (by kernel_rfl) ?_
    refine fine_ask O (n := 100000) (q := 3) (by kernel_rfl) ?_
    refine fine_ask O (n := 100000) (q := 8) (by kernel_rfl) ?_
    refine fine_ask O (n := 100000) (q := 51) (by kernel_rfl) ?_
    refine fine_ask O (n := 100000) (q := 19) (by kernel_rfl) ?_
    refine fine_ask O (n := 100000) (q := 17) (by kernel_rfl) ?_
    refine fine_tok O (n := 100000) (q := 1000) (by kernel_rfl) (by kernel_rfl) (fun _ => by kernel_rfl) (fun _ _ => by kernel_rfl) ?_
    intro u tk
    exact fine_true (by kernel_rfl) hR
  · intro P t m p D O hR
    refine fine_go O (n := 100000) (q := 4) ?_
    refine fine_ask O (n := 100000) (q := 12) (by kernel_rfl) ?_
    refine fine_ask O (n := 100000) (q := 12) (by kernel_rfl) ?_
    refine fine_ask O (n := 100000) (q := 10) (by kernel_rfl) ?_
    refine fine_ask O (n := 100000) (q := 3) (by kernel_rfl) ?_
    refine fine_ask O (n := 100000) (q := 3) (by kernel_rfl) ?_
    refine fine_ask O (n := 100000) (q := 3) (by kernel_rfl) ?_
    refine fine_ask O (n := 100000) (q := 3) (by kernel_rfl) ?_
    refine fine_ask O (n := 100000) (q := 3) (by kernel_rfl) ?_
    refine fine_ask O (n := 100000) (q := 3) (by kernel_rfl) ?_
    refine fine_ask O (n := 100000) (q := 8) (by kernel_rfl) ?_
    refine fine_ask O (n := 100000) (q := 51) (by kernel_rfl) ?_
    refine fine_ask O (n := 100000) (q := 19) (by kernel_rfl) ?_
    refine fine_ask O (n := 100000) (q := 17) (by kernel_rfl) ?_
    refine fine_tok O (n := 100000) (q := 1000) (by kernel_rfl) (by kernel_rfl) (fun _ => by kernel_rfl) (fun _ _ => by kernel_rfl) ?_
    intro u tk
    exact fine_true (by kernel_rfl) hR
  · intro P t m p D O hR
    refine fine_go O (n := 100000) (q := 4) ?_
    refine fine_ask O (n := 100000) (q := 12) (by kernel_rfl) ?_
    refine fine_ask O (n := 100000) (q := 12) (by kernel_rfl) ?_
    refine fine_ask O (n := 100000) (q := 10) (by kernel_rfl) ?_
    refine fine_ask O (n := 100000) (q := 3) (by kernel_rfl) ?_
    refine fine_ask O (n := 100000) (q := 3) (by kernel_rfl) ?_
    refine fine_ask O (n := 100000) (q := 3) (by kernel_rfl) ?_
    refine fine_ask O (n := 100000) (q := 3) (by kernel_rfl) ?_
    refine fine_ask O (n := 100000) (q := 3) (by kernel_rfl) ?_
    refine fine_ask O (n := 100000) (q := 3) (by kernel_rfl) ?_
    refine fine_ask O (n := 100000) (q := 8) (by kernel_rfl) ?_
    refine fine_ask O (n := 100000) (q := 51) (by kernel_rfl) ?_
    refine fine_ask O (n := 100000) (q := 19) (by kernel_rfl) ?_
    refine fine_ask O (n := 100000) (q := 17) (by kernel_rfl) ?_
    refine fine_tok O (n := 100000) (q := 1000) (by kernel_rfl) (by kernel_rfl) (fun _ => by kernel_rfl) (fun _ _ => by kernel_rfl) ?_
    intro u tk
    exact fine_true (by kernel_rfl) hR
  · intro P t m p D O hR
    refine fine_go O (n := 100000) (q := 4) ?_
    refine fine_ask O (n := 100000) (q := 12) (by kernel_rfl) ?_
    refine fine_ask O (n := 100000) (q := 12) (by kernel_rfl) ?_
    refine fine_ask O (n := 100000) (q := 10) (by kernel_rfl) ?_
    refine fine_ask O (n := 100000) (q := 3) (by kernel_rfl) ?_
    refine fine_ask O (n := 100000) (q := 3) (by kernel_rfl) ?_
    refine fine_ask O (n := 100000) (q := 3) (by kernel_rfl) ?_
    refine fine_ask O (n := 100000) (q := 3) (by kernel_rfl) ?_
    refine fine_ask O (n := 100000) (q := 3) (by kernel_rfl) ?_
    refine fine_ask O (n := 100000) (q := 3) (by kernel_rfl) ?_
    refine fine_ask O (n := 100000) (q := 8) (by kernel_rfl) ?_
    refine fine_ask O (n := 100000) (q := 51) (by kernel_rfl) ?_
    refine fine_ask O (n := 100000) (q := 19) (by kernel_rfl) ?_
    refine fine_ask O (n := 100000) (q := 17) (by kernel_rfl) ?_
    refine fine_tok O (n := 100000) (q := 1000) (by kernel_rfl) (by kernel_rfl) (fun _ => by kernel_rfl) (fun _ _ => by kernel_rfl) ?_
    intro u tk
    exact fine_true (by kernel_rfl) hR
  · intro P t m p D O hR
    refine fine_go O (n := 100000) (q := 4) ?_
    refine fine_ask O (n := 100000) (q := 12) (by kernel_rfl) ?_
    refine fine_ask O (n := 100000) (q := 12) (by kernel_rfl) ?_
    refine fine_ask O (n := 100000) (q := 10) (by kernel_rfl) ?_
    refine fine_ask O (n := 100000) (q := 3) (by kernel_rfl) ?_
    refine fine_ask O (n := 100000) (q := 3) (by kernel_rfl) ?_
    refine fine_ask O (n := 100000) (q := 3) (by kernel_rfl) ?_
    refine fine_ask O (n := 100000) (q := 3) (by kernel_rfl) ?_
    refine fine_ask O (n := 100000) (q := 3) (by kernel_rfl) ?_
    refine fine_ask O (n := 100000) (q := 3) (by kernel_rfl) ?_
    refine fine_ask O (n := 100000) (q := 8) (by kernel_rfl) ?_
    refine fine_ask O (n := 100000) (q := 51) (by kernel_rfl) ?_
    refine fine_ask O (n := 100000) (q := 19) (by kernel_rfl) ?_
    refine fine_ask O (n := 100000) (q := 17) (by kernel_rfl) ?_
    refine fine_tok O (n := 100000) (q := 1000) (by kernel_rfl) (by kernel_rfl) (fun _ => by kernel_rfl) (fun _ _ => by kernel_rfl) ?_
    intro u tk
    exact fine_true (by kernel_rfl) hR
  · intro P t m p D O hR
    refine fine_go O (n := 100000) (q := 4) ?_
    refine fine_ask O (n := 100000) (q := 12) (by kernel_rfl) ?_
    refine fine_ask O (n := 100000) (q := 12) (by kernel_rfl) ?_
    refine fine_ask O (n := 100000) (q := 10) (by kernel_rfl) ?_
    refine fine_ask O (n := 100000) (q := 3) (by kernel_rfl) ?_
    refine fine_ask O (n := 100000) (q := 3) (by kernel_rfl) ?_
    refine fine_ask O (n := 100000) (q := 3) (by kernel_rfl) ?_
    refine fine_ask O (n := 100000) (q := 3) (by kernel_rfl) ?_
    refine fine_ask O (n := 100000) (q := 3) (by kernel_rfl) ?_
    refine fine_ask O (n := 100000) (q := 3) (by kernel_rfl) ?_
    refine fine_ask O (n := 100000) (q := 8) (by kernel_rfl) ?_
    refine fine_ask O (n := 100000) (q := 51) (by kernel_rfl) ?_
    refine fine_ask O (n := 100000) (q := 19) (by kernel_rfl) ?_
    refine fine_ask O (n := 100000) (q := 17) (by kernel_rfl) ?_
    refine fine_tok O (n := 100000) (q := 1000) (by kernel_rfl) (by kernel_rfl) (fun _ => by kernel_rfl) (fun _ _ => by kernel_rfl) ?_
    intro u tk
    exact fine_true (by kernel_rfl) hR
  · intro P t m p D O hR
    refine fine_go O (n := 100000) (q := 4) ?_
    refine fine_ask O (n := 100000) (q := 12) (by kernel_rfl) ?_
    refine fine_ask O (n := 100000) (q := 12) (by kernel_rfl) ?_
    refine fine_ask O (n := 100000) (q := 4) (by kernel_rfl) ?_
    refine fine_ask O (n := 100000) (q := 10) (by kernel_rfl) ?_
    refine fine_ask O (n := 100000) (q := 3) (by kernel_rfl) ?_
    refine fine_ask O (n := 100000) (q := 3) (by kernel_rfl) ?_
    refine fine_ask O (n := 100000) (q := 3) (by kernel_rfl) ?_
    refine fine_ask O (n := 100000) (q := 3) (by kernel_rfl) ?_
    refine fine_ask O (n := 100000) (q := 3) (by kernel_rfl) ?_
    refine fine_ask O (n := 100000) (q := 3) (by kernel_rfl) ?_
    refine fine_ask O (n := 100000) (q := 8) (by kernel_rfl) ?_
    refine fine_ask O (n := 100000) (q := 51) (by kernel_rfl) ?_
    refine fine_ask O (n := 100000) (q := 19) (by kernel_rfl) ?_
    refine fine_ask O (n := 100000) (q := 17) (by kernel_rfl) ?_
    refine fine_tok O (n := 100000) (q := 1000) (by kernel_rfl) (by kernel_rfl) (fun _ => by kernel_rfl) (fun _ _ => by kernel_rfl) ?_
    intro u tk
    exact fine_true (by kernel_rfl) hR
  · intro P t m p D O hR
    refine fine_go O (n := 100000) (q := 4) ?_
    refine fine_ask O (n := 100000) (q := 12) (by kernel_rfl) ?_
    refine fine_ask O (n := 100000) (q := 12) (by kernel_rfl) ?_
    refine fine_ask O (n := 100000) (q := 4) (by kernel_rfl) ?_
    refine fine_ask O (n := 100000) (q := 10) (by kernel_rfl) ?_
    refine fine_ask O (n := 100000) (q := 3) (by kernel_rfl) ?_
    refine fine_ask O (n := 100000) (q := 3) (by kernel_rfl) ?_
    refine fine_ask O (n := 100000) (q := 3) (by kernel_rfl) ?_
    refine fine_ask O (n := 100000) (q := 3) (by kernel_rfl) ?_
    refine fine_ask O (n := 100000) (q := 3) (by kernel_rfl) ?_
    refine fine_ask O (n := 100000) (q := 3) (by kernel_rfl) ?_
    refine fine_ask O (n := 100000) (q := 8) (by kernel_rfl) ?_
    refine fine_ask O (n := 100000) (q := 51) (by kernel_rfl) ?_
    refine fine_ask O (n := 100000) (q := 19) (by kernel_rfl) ?_
    refine fine_ask O (n := 100000) (q := 17) (by kernel_rfl) ?_
    refine fine_tok O (n := 100000) (q := 1000) (by kernel_rfl) (by kernel_rfl) (fun _ => by kernel_rfl) (fun _ _ => by kernel_rfl) ?_
    intro u tk
    exact fine_true (by kernel_rfl) hR
end Mine

namespace Mine
theorem g07 : RunOk 0 ⟨#[45, 48, 48, 83]⟩ ∧
  RunOk 0 ⟨#[45, 48, 48, 120, 120]⟩ ∧
  RunOk 0 ⟨#[45, 49, 50]⟩ ∧
  RunOk 0 ⟨#[45, 53, 51]⟩ ∧
  RunOk 0 ⟨#[45, 53, 51, 49, 50]⟩ ∧
  RunOk 0 ⟨#[45, 53, 51, 83]⟩ ∧
  RunOk 0 ⟨#[45, 53, 51, 120, 120]⟩ ∧
  RunOk 0 ⟨#[45, 120, 120]⟩ ∧
  RunOk 0 ⟨#[49, 49, 50]⟩ ∧
  RunOk 0 ⟨#[49, 50]⟩ := by
  refine ⟨?_, ?_, ?_, ?_, ?_, ?_, ?_, ?_, ?_, ?_⟩
  · intro P t m p D O hR
    refine fine_go O (n := 100000) (q := 4) ?_
    refine fine_ask O (n := 100000) (q := 12) (by kernel_rfl) ?_
    refine fine_ask O (n := 100000) (q := 12) (by kernel_rfl) ?_
    refine fine_ask O (n := 100000) (q := 4) (by kernel_rfl) ?_
    refine fine_ask O (n := 100000) (q := 10) (by kernel_rfl) ?_
    refine fine_ask O (n := 100000) (q := 3) (by kernel_rfl) ?_
    refine fine_ask O (n := 100000) (q := 3) (by kernel_rfl) ?_
    refine fine_ask O (n := 100000) (q := 3) (by kernel_rfl) ?_
    refine fine_ask O (n := 100000) (q := 3) (by kernel_rfl) ?_
    refine fine_ask O (n := 100000) (q := 3) (by kernel_rfl) ?_
    refine fine_ask O (n := 100000) (q := 3) (by kernel_rfl) ?_
    refine fine_ask O (n := 100000) (q := 8) (by kernel_rfl) ?_
    refine fine_ask O (n := 100000) (q := 51) (by kernel_rfl) ?_
    refine fine_ask O (n := 100000) (q := 19) (by kernel_rfl) ?_
    refine fine_ask O (n := 100000) (q := 17) (by kernel_rfl) ?_
    refine fine_tok O (n := 100000) (q := 1000) (by kernel_rfl) (by kernel_rfl) (fun _ => by kernel_rfl) (fun _ _ => by kernel_rfl) ?_
    intro u tk
    exact fine_true (by kernel_rfl) hR
  · intro P t m p D O hR
    refine fine_go O (n := 100000) (q := 4) ?_
    refine fine_ask O (n := 100000) (q := 12) (by kernel_rfl) ?_
    refine fine_ask O (n := 100000) (q := 12) (by kernel_rfl) ?_
    refine fine_ask O (n := 100000) (q := 4) (by kernel_rfl) ?_
    refine fine_ask O (n := 100000) (q := 10) (by kernel_rfl) ?_
    refine fine_ask O (n := 100000) (q := 3) (by kernel_rfl) ?_
    refine fine_ask O (n := 100000) (q := 3) (by kernel_rfl) ?_
    refine fine_ask O (n := 100000) (q := 3) (by kernel_rfl) ?_
    refine fine_ask O (n := 100000) (q := 3) (by kernel_rfl) ?_
    refine fine_ask O (n := 100000) (q := 3) (by kernel_rfl) ?_
    refine fine_ask O (n := 100000) (q := 3) (by kernel_rfl) ?_
    refine fine_ask O (n := 100000) (q := 8) (by kernel_rfl) ?_
    refine fine_ask O (n := 100000) (q := 51) (by kernel_rfl) ?_
    refine fine_ask O (n := 100000) (q := 19) (by kernel_rfl) ?_
    refine fine_ask O (n := 100000) (q := 17) (by kernel_rfl) ?_
    refine fine_tok O (n := 100000) (q := 1000) (by kernel_rfl) (by kernel_rfl) (fun _ => by kernel_rfl) (fun _ _ => by kernel_rfl) ?_
    intro u tk
    exact fine_true (by kernel_rfl) hR
  · intro P t m p D O hR
    refine fine_go O (n := 100000) (q := 4) ?_
    refine fine_ask O (n := 100000) (q := 12) (by kernel_rfl) ?_
    refine fine_ask O (n := 100000) (q := 12) (by kernel_rfl) ?_
    refine fine_ask O (n := 100000) (q := 4) (by kernel_rfl) ?_
    refine fine_ask O (n := 100000) (q := 10) (by kernel_rfl) ?_
    refine fine_ask O (n := 100000) (q := 3) (by kernel_rfl) ?_
    refine fine_ask O (n := 100000) (q := 3) (by kernel_rfl) ?_
    refine fine_ask O (n := 100000) (q := 3) (by kernel_rfl) ?_
    refine fine_ask O (n := 100000) (q := 3) (by kernel_rfl) ?_
    refine fine_ask O (n := 100000) (q := 3) (by kernel_rfl) ?_
    refine fine_ask O (n := 100000) (q := 3) (by kernel_rfl) ?_
    refine fine_ask O (n := 100000) (q := 8) (by kernel_rfl) ?_
    refine fine_ask O (n := 100000) (q := 51) (by kernel_rfl) ?_
    refine fine_ask O (n := 100000) (q := 19) (by kernel_rfl) ?_
    refine fine_ask O (n := 100000) (q := 17) (by kernel_rfl) ?_
    refine fine_tok O (n := 100000) (q := 1000) (by kernel_rfl) (by kernel_rfl) (fun _ => by kernel_rfl) (fun _ _ => by kernel_rfl) ?_
    intro u tk
    exact fine_true (by kernel_rfl) hR
  · intro P t m p D O hR
    refine fine_go O (n := 100000) (q := 4) ?_
    refine fine_ask O (n := 100000) (q := 12) (by kernel_rfl) ?_
    refine fine_ask O (n := 100000) (q := 12) (by kernel_rfl) ?_
    refine fine_ask O (n := 100000) (q := 4) (by kernel_rfl) ?_
    refine fine_ask O (n := 100000) (q := 10) (by kernel_rfl) ?_
    refine fine_ask O (n := 100000) (q := 3) (by kernel_rfl) ?_
    refine fine_ask O (n := 100000) (q := 3) (by kernel_rfl) ?_
    refine fine_ask O (n := 100000) (q := 3) (by kernel_rfl) ?_
    refine fine_ask O (n := 100000) (q := 3) (by kernel_rfl) ?_
    refine fine_ask O (n := 100000) (q := 3) (by kernel_rfl) ?_
    refine fine_ask O (n := 100000) (q := 3) (by kernel_rfl) ?_
    refine fine_ask O (n := 100000) (q := 8) (by kernel_rfl) ?_
    refine fine_ask O (n := 100000) (q := 51) (by kernel_rfl) ?_
    refine fine_ask O (n := 100000) (q := 19) (by kernel_rfl) ?_
    refine fine_ask O (n := 100000) (q := 17) (by kernel_rfl) ?_
    refine fine_tok O (n := 100000) (q := 1000) (by kernel_rfl) (by kernel_rfl) (fun _ => by kernel_rfl) (fun _ _ => by kernel_rfl) ?_
    intro u tk
    exact fine_true (by kernel_rfl) hR
  · intro P t m p D O hR
    refine fine_go O (n := 100000) (q := 4) ?_
    refine fine_ask O (n := 100000) (q := 12) (by kernel_rfl) ?_
    refine fine_ask O (n := 100000) (q := 12) (by kernel_rfl) ?_
    refine fine_ask O (n := 100000) (q := 4) (by kernel_rfl) ?_
    refine fine_ask O (n := 100000) (q := 10) (by kernel_rfl) ?_
    refine fine_ask O (n := 100000) (q := 3) (by kernel_rfl) ?_
    refine fine_ask O (n := 100000) (q := 3) (by kernel_rfl) ?_
    refine fine_ask O (n := 100000) (q := 3) (by kernel_rfl) ?_
    refine fine_ask O (n := 100000) (q := 3) (by kernel_rfl) ?_
    refine fine_ask O (n := 100000) (q := 3) (by kernel_rfl) ?_
    refine fine_ask O (n := 100000) (q := 3) (by kernel_rfl) ?_
    refine fine_ask O (n := 100000) (q := 8) (by kernel_rfl) ?_
    refine fine_ask O (n := 100000) (q := 51) (by kernel_rfl) ?_
    refine fine_ask O (n := 100000) (q := 19) (by kernel_rfl) ?_
    refine fine_ask O (n := 100000) (q := 17) (by kernel_rfl) ?_
    refine fine_tok O (n := 100000) (q := 1000) (by kernel_rfl) (by kernel_rfl) (fun _ => by kernel_rfl) (fun _ _ => by kernel_rfl) ?_
    intro u tk
    exact fine_true (by kernel_rfl) hR
  · intro P t m p D O hR
    refine fine_go O (n := 100000) (q := 4) ?_
    refine fine_ask O (n := 100000) (q := 12) (by kernel_rfl) ?_
    refine fine_ask O (n := 100000) (q := 12) (by kernel_rfl) ?_
    refine fine_ask O (n := 100000) (q := 4) (by kernel_rfl) ?_
    refine fine_ask O (n := 100000) (q := 10) (by kernel_rfl) ?_
    refine fine_ask O (n := 100000) (q := 3) (by kernel_rfl) ?_
    refine fine_ask O (n := 100000) (q := 3) (by kernel_rfl) ?_
    refine fine_ask O (n := 100000) (q := 3) (by kernel_rfl) ?_
    refine fine_ask O (n := 100000) (q := 3) (by kernel_rfl) ?_
    refine fine_ask O (n := 100000) (q := 3) (by kernel_rfl) ?_
    refine fine_ask O (n := 100000) (q := 3) (by kernel_rfl) ?_
    refine fine_ask O (n := 100000) (q := 8) (by kernel_rfl) ?_
    refine fine_ask O (n := 100000) (q := 51) (by kernel_rfl) ?_
    refine fine_ask O (n := 100000) (q := 19) (by kernel_rfl) ?_
    refine fine_ask O (n := 100000) (q := 17) (by kernel_rfl) ?_
    refine fine_tok O (n := 100000) (q := 1000) (by kernel_rfl) (by kernel_rfl) (fun _ => by kernel_rfl) (fun _ _ => by kernel_rfl) ?_
    intro u tk
    exact fine_true (by kernel_rfl) hR
  · intro P t m p D O hR
    refine fine_go O (n := 100000) (q := 4) ?_
    refine fine_ask O (n := 100000) (q := 12) (by kernel_rfl) ?_
    refine fine_ask O (n := 100000) (q := 12) (by kernel_rfl) ?_
    refine fine_ask O (n := 100000) (q := 4) (by kernel_rfl) ?_
    refine fine_ask O (n := 100000) (q := 10) (by kernel_rfl) ?_
    refine fine_ask O (n := 100000) (q := 3) (by kernel_rfl) ?_
    refine fine_ask O (n := 100000) (q := 3) (by kernel_rfl) ?_
    refine fine_ask O (n := 100000) (q := 3) (by kernel_rfl) ?_
    refine fine_ask O (n := 100000) (q := 3) (by kernel_rfl) ?_
    refine fine_ask O (n := 100000) (q := 3) (by kernel_rfl) ?_
    refine fine_ask O (n := 100000) (q := 3) (by kernel_rfl) ?_
    refine fine_ask O (n := 100000) (q := 8) (by kernel_rfl) ?_
    refine fine_ask O (n := 100000) (q := 51) (by kernel_rfl) ?_
    refine fine_ask O (n := 100000) (q := 19) (by kernel_rfl) ?_
    refine fine_ask O (n := 100000) (q := 17) (by kernel_rfl) ?_
    refine fine_tok O (n := 100000) (q := 1000) (by kernel_rfl) (by kernel_rfl) (fun _ => by kernel_rfl) (fun _ _ => by kernel_rfl) ?_
    intro u tk
    exact fine_true (by kernel_rfl) hR
  · intro P t m p D O hR
    refine fine_go O (n := 100000) (q := 4) ?_
    refine fine_ask O (n := 100000) (q := 12) (by kernel_rfl) ?_
    refine fine_ask O (n := 100000) (q := 12) (by kernel_rfl) ?_
    refine fine_ask O (n := 100000) (q := 4) (by kernel_rfl) ?_
    refine fine_ask O (n := 100000) (q := 10) (by kernel_rfl) ?_
    refine fine_ask O (n := 100000) (q := 3) (by kernel_rfl) ?_
    refine fine_ask O (n := 100000) (q := 3) (by kernel_rfl) ?_
    refine fine_ask O (n := 100000) (q := 3) (by kernel_rfl) ?_
    refine fine_ask O (n := 100000) (q := 3) (by kernel_rfl) ?_
    refine fine_ask O (n := 100000) (q := 3) (by kernel_rfl) ?_
    refine fine_ask O (n := 100000) (q := 3) (by kernel_rfl) ?_
    refine fine_ask O (n := 100000) (q := 8) (by kernel_rfl) ?_
    refine fine_ask O (n := 100000) (q := 51) (by kernel_rfl) ?_
    refine fine_ask O (n := 100000) (q := 19) (by kernel_rfl) ?_
    refine fine_ask O (n := 100000) (q := 17) (by kernel_rfl) ?_
    refine fine_tok O (n := 100000) (q := 1000) (by kernel_rfl) (by kernel_rfl) (fun _ => by kernel_rfl) (fun _ _ => by kernel_rfl) ?_
    intro u tk
    exact fine_true (by kernel_rfl) hR
  · intro P t m p D O hR
    refine fine_go O (n := 100000) (q := 4) ?_
    refine fine_ask O (n := 100000) (q := 12) (by kernel_rfl) ?_
    refine fine_ask O (n := 100000) (q := 12) (by kernel_rfl) ?_
    refine fine_ask O (n := 100000) (q := 4) (by kernel_rfl) ?_
    refine fine_ask O (n := 100000) (q := 8) (by kernel_rfl) ?_
    refine fine_ask O (n := 100000) (q := 3) (by kernel_rfl) ?_
    refine fine_ask O (n := 100000) (q := 3) (by kernel_rfl) ?_
    refine fine_ask O (n := 100000) (q := 3) (by kernel_rfl) ?_
    refine fine_ask O (n := 100000) (q := 3) (by kernel_rfl) ?_
    refine fine_ask O (n := 100000) (q := 3) (by kernel_rfl) ?_
    refine fine_ask O (n := 100000) (q := 3) (by kernel_rfl) ?_
    refine fine_ask O (n := 100000) (q := 8) (by kernel_rfl) ?_
    refine fine_ask O (n := 100000) (q := 51) (by kernel_rfl) ?_
    refine fine_ask O (n := 100000) (q := 19) (by kernel_rfl) ?_
    refine fine_ask O (n := 100000) (q := 17) (by kernel_rfl) ?_
    refine fine_tok O (n := 100000) (q := 1000) (by kernel_rfl) (by kernel_rfl) (fun _ => by kernel_rfl) (fun _ _ => by kernel_rfl) ?_
    intro u tk
    exact fine_true (by kernel_rfl) hR
  · intro P t m p D O hR
    refine fine_go O (n := 100000) (q := 4) ?_
    refine fine_ask O (n := 100000) (q := 12) (by kernel_rfl) ?_
    refine fine_ask O (n := 100000) (q := 12) (by kernel_rfl) ?_
    refine fine_ask O (n := 100000) (q := 4) (by kernel_rfl) ?_
    refine fine_ask O (n := 100000) (q := 8) (by kernel_rfl) ?_
    refine fine_ask O (n := 100000) (q := 3) (by kernel_rfl) ?_
    refine fine_ask O (n := 100000) (q := 3) (by kernel_rfl) ?_
    refine fine_ask O (n := 100000) (q := 3) (by kernel_rfl) ?_
    refine fine_ask O (n := 100000) (q := 3) (by kernel_rfl) ?_
    refine fine_ask O (n := 100000) (q := 3) (by kernel_rfl) ?_
    refine fine_ask O (n := 100000) (q := 3) (by kernel_rfl) ?_
    refine fine_ask O (n := 100000) (q := 8) (by kernel_rfl) ?_
    refine fine_ask O (n := 100000) (q := 51) (by kernel_rfl) ?_
    refine fine_ask O (n := 100000) (q := 19) (by kernel_rfl) ?_
    refine fine_ask O (n := 100000) (q := 17) (by kernel_rfl) ?_
    refine fine_tok O (n := 100000) (q := 1000) (by kernel_rfl) (by kernel_rfl) (fun _ => by kernel_rfl) (fun _ _ => by kernel_rfl) ?_
    intro u tk
    exact fine_true (by kernel_rfl) hR
end Mine

namespace Mine
theorem g08 : RunOk 0 ⟨#[49, 50, 51]⟩ ∧
  RunOk 0 ⟨#[49, 50, 51, 83]⟩ ∧
  RunOk 0 ⟨#[49, 83]⟩ ∧
  RunOk 0 ⟨#[49, 120, 120]⟩ ∧
  RunOk 0 ⟨#[57, 49, 50]⟩ ∧
  RunOk 0 ⟨#[57, 83]⟩ ∧
  RunOk 0 ⟨#[57, 120, 120]⟩ ∧
  RunOk 0 ⟨#[120, 120]⟩ := by
  refine ⟨?_, ?_, ?_, ?_, ?_, ?_, ?_, ?_⟩
  · intro P t m p D O hR
    refine fine_go O (n := 100000) (q := 4) ?_
    refine fine_ask O (n := 100000) (q := 12) (by kernel_rfl) ?_
    refine fine_ask O (n := 100000) (q := 12) (by kernel_rfl) ?_
    refine fine_ask O (n := 100000) (q := 4) (by kernel_rfl) ?_
    refine fine_ask O (n := 100000) (q := 8) (by kernel_rfl) ?_
    refine fine_ask O (n := 100000) (q := 3) (by kernel_rfl) ?_
    refine fine_ask O (n := 100000) (q := 3) (by kernel_rfl) ?_
    refine fine_ask O (n := 100000) (q := 3) (by kernel_rfl) ?_
    refine fine_ask O (n := 100000) (q := 3) (by kernel_rfl) ?_
    refine fine_ask O (n := 100000) (q := 3) (by kernel_rfl) ?_
    refine fine_ask O (n := 100000) (q := 3) (by kernel_rfl) ?_
    refine fine_ask O (n := 100000) (q := 8) (by kernel_rfl) ?_
    refine fine_ask O (n := 100000) (q := 51) (by kernel_rfl) ?_
    refine fine_ask O (n := 100000) (q := 19) (by kernel_rfl) ?_
    refine fine_ask O (n := 100000) (q := 17) (by kernel_rfl) ?_
    refine fine_tok O (n := 100000) (q := 1000) (by kernel_rfl) (by kernel_rfl) (fun _ => by kernel_rfl) (fun _ _ => by kernel_rfl) ?_
    intro u tk
    exact fine_true (by kernel_rfl) hR
  · intro P t m p D O hR
    refine fine_go O (n := 100000) (q := 4) ?_
    refine fine_ask O (n := 100000) (q := 12) (by kernel_rfl) ?_
    refine fine_ask O (n := 100000) (q := 12) (by kernel_rfl) ?_
    refine fine_ask O (n := 100000) (q := 4) (by kernel_rfl) ?_
    refine fine_ask O (n := 100000) (q := 8) (by kernel_rfl) ?_
    refine fine_ask O (n := 100000) (q := 3) (by kernel_rfl) ?_
    refine fine_ask O (n := 100000) (q := 3) (by kernel_rfl) ?_
    refine fine_ask O (n := 100000) (q := 3) (by kernel_rfl) ?_
    refine fine_ask O (n := 100000) (q := 3) (by kernel_rfl) ?_
    refine fine_ask O (n := 100000) (q := 3) (by kernel_rfl) ?_
    refine fine_ask O (n := 100000) (q := 3) (by kernel_rfl) ?_
    refine fine_ask O (n := 100000) (q := 8) (by kernel_rfl) ?_
    refine fine_ask O (n := 100000) (q := 51) (by kernel_rfl) ?_
    refine fine_ask O (n := 100000) (q := 19) (by kernel_rfl) ?_
    refine fine_ask O (n := 100000) (q := 17) (by kernel_rfl) ?_
    refine fine_tok O (n := 100000) (q := 1000) (by kernel_rfl) (by kernel_rfl) (fun _ => by kernel_rfl) (fun _ _ => by kernel_rfl) ?_
    intro u tk
    exact fine_true (by kernel_rfl) hR
  · intro P t m p D O hR
    refine fine_go O (n := 100000) (q := 4) ?_
    refine fine_ask O (n := 100000) (q := 12) (by kernel_rfl) ?_
    refine fine_ask O (n := 100000) (q := 12) (by kernel_rfl) ?_
    refine fine_ask O (n := 100000) (q := 4) (by kernel_rfl) ?_
    refine fine_ask O (n := 100000) (q := 8) (by kernel_rfl) ?_
    refine fine_ask O (n := 100000) (q := 3) (by kernel_rfl) ?_
    refine fine_ask O (n := 100000) (q := 3) (by kernel_rfl) ?_
    refine fine_ask O (n := 100000) (q := 3) (by kernel_rfl) ?_
    refine fine_ask O (n := 100000) (q := 3) (by kernel_rfl) ?_
    refine fine_ask O (n := 100000) (q := 3) (by kernel_rfl) ?_
    refine fine_ask O (n := 100000) (q := 3) (by kernel_rfl) ?_
    refine fine_ask O (n := 100000) (q := 8) (by kernel_rfl) ?_
    refine fine_ask O (n := 100000) (q := 51) (by kernel_rfl) ?_
    refine fine_ask O (n := 100000) (q := 19) (by kernel_rfl) ?_
    refine fine_ask O (n := 100000) (q := 17) (by kernel_rfl) ?_
    refine fine_tok O (n := 100000) (q := 1000) (by kernel_rfl) (by kernel_rfl) (fun _ => by kernel_rfl) (fun _ _ => by kernel_rfl) ?_
    intro u tk
    exact fine_true (by kernel_rfl) hR
  · intro P t m p D O hR
    refine fine_go O (n := 100000) (q := 4) ?_
    refine fine_ask O (n := 100000) (q := 12) (by kernel_rfl) ?_
    refine fine_ask O (n := 100000) (q := 12) (by kernel_rfl) ?_
    refine fine_ask O (n := 100000) (q := 4) (by kernel_rfl) ?_
    refine fine_ask O (n := 100000) (q := 8) (by kernel_rfl) ?_
    refine fine_ask O (n := 100000) (q := 3) (by kernel_rfl) ?_
    refine fine_ask O (n := 100000) (q := 3) (by kernel_rfl) ?_
    refine fine_ask O (n := 100000) (q := 3) (by kernel_rfl) ?_
    refine fine_ask O (n := 100000) (q := 3) (by kernel_rfl) ?_
    refine fine_ask O (n := 100000) (q := 3) (by kernel_rfl) ?_
    refine fine_ask O (n := 100000) (q := 3) (by kernel_rfl) ?_
    refine fine_ask O (n := 100000) (q := 8) (by kernel_rfl) ?_
    refine fine_ask O (n := 100000) (q := 51) (by kernel_rfl) ?_
    refine fine_ask O (n := 100000) (q := 19) (by kernel_rfl) ?_
    refine fine_ask O (n := 100000) (q := 17) (by kernel_rfl) ?_
    refine fine_tok O (n := 100000) (q := 1000) (by kernel_rfl) (by kernel_rfl) (fun _ => by kernel_rfl) (fun _ _ => by kernel_rfl) ?_
    intro u tk
    exact fine_true (by kernel_rfl) hR
  · intro P t m p D O hR
    refine fine_go O (n := 100000) (q := 4) ?_
    refine fine_ask O (n := 100000) (q := 12) (by kernel_rfl) ?_
    refine fine_ask O (n := 100000) (q := 12) (by kernel_rfl) ?_
    refine fine_ask O (n := 100000) (q := 4) (by kernel_rfl) ?_
    refine fine_ask O (n := 100000) (q := 8) (by kernel_rfl) ?_
    refine fine_ask O (n := 100000) (q := 3) (by kernel_rfl) ?_
    refine fine_ask O (n := 100000) (q := 3) (by kernel_rfl) ?_
    refine fine_ask O (n := 100000) (q := 3) (by kernel_rfl) ?_
    refine fine_ask O (n := 100000) (q := 3) (by kernel_rfl) ?_
    refine fine_ask O (n := 100000) (q := 3) (by kernel_rfl) ?_
    refine fine_ask O (n := 100000) (q := 3) (by kernel_rfl) ?_
    refine fine_ask O (n := 100000) (q := 8) (by kernel_rfl) ?_
    refine fine_ask O (n := 100000) (q := 51) (by kernel_rfl) ?_
    refine fine_ask O (n := 100000) (q := 19) (by kernel_rfl) ?_
    refine fine_ask O (n := 100000) (q := 17) (by kernel_rfl) ?_
    refine fine_tok O (n := 100000) (q := 1000) (by kernel_rfl) (by kernel_rfl) (fun _ => by kernel_rfl) (fun _ _ => by kernel_rfl) ?_
    intro u tk
    exact fine_true (by kernel_rfl) hR
  · intro P t m p D O hR
    refine fine_go O (n := 100000) (q := 4) ?_
    refine fine_ask O (n := 100000) (q := 12) (by kernel_rfl) ?_
    refine fine_ask O (n := 100000) (q := 12) (by kernel_rfl) ?_
    refine fine_ask O (n := 100000) (q := 4) (by kernel_rfl) ?_
    refine fine_ask O (n := 100000) (q := 8) (by kernel_rfl) ?_
    refine fine_ask O (n := 100000) (q := 3) (by kernel_rfl) ?_
    refine fine_ask O (n := 100000) (q := 3) (by kernel_rfl) ?_
    refine fine_ask O (n := 100000) (q := 3) (by kernel_rfl) ?_
    refine fine_ask O (n := 100000) (q := 3) (by kernel_rfl) ?_
    refine fine_ask O (n := 100000) (q := 3) (by kernel_rfl) ?_
    refine fine_ask O (n := 100000) (q := 3) (by kernel_rfl) ?_
    refine fine_ask O (n := 100000) (q := 8) (by kernel_rfl) ?_
    refine fine_ask O (n := 100000) (q := 51) (by kernel_rfl) ?_
    refine fine_ask O (n := 100000) (q := 19) (by kernel_rfl) ?_
    refine fine_ask O (n := 100000) (q := 17) (by kernel_rfl) ?_
    refine fine_tok O (n := 100000) (q := 1000) (by kernel_rfl) (by kernel_rfl) (fun _ => by kernel_rfl) (fun _ _ => by kernel_rfl) ?_
    intro u tk
    exact fine_true (by kernel_rfl) hR
  · intro P t m p D O hR
    refine fine_go O (n := 100000) (q := 4) ?_
    refine fine_ask O (n := 100000) (q := 12) (by kernel_rfl) ?_
    refine fine_ask O (n := 100000) (q := 12) (by kernel_rfl) ?_
    refine fine_ask O (n := 100000) (q := 4) (by kernel_rfl) ?_
    refine fine_ask O (n := 100000) (q := 8) (by kernel_rfl) ?_
    refine fine_ask O (n := 100000) (q := 3) (by kernel_rfl) ?_
    refine fine_ask O (n := 100000) (q := 3) (by kernel_rfl) ?_
    refine fine_ask O (n := 100000) (q := 3) (by kernel_rfl) ?_
    refine fine_ask O (n := 100000) (q := 3) (by kernel_rfl) ?_
    refine fine_ask O (n := 100000) (q := 3) (by kernel_rfl) ?_
    refine fine_ask O (n := 100000) (q := 3) (by kernel_rfl) ?_
    refine fine_ask O (n := 100000) (q := 8) (by kernel_rfl) ?_
    refine fine_ask O (n := 100000) (q := 51) (by kernel_rfl) ?_
    refine fine_ask O (n := 100000) (q := 19) (by kernel_rfl) ?_
    refine fine_ask O (n := 100000) (q := 17) (by kernel_rfl) ?_
    refine fine_tok O (n := 100000) (q := 1000) (by kernel_rfl) (by kernel_rfl) (fun _ => by kernel_rfl) (fun _ _ => by kernel_rfl) ?_
    intro u tk
    exact fine_true (by kernel_rfl) hR
  · intro P t m p D O hR
    refine fine_go O (n := 100000) (q := 4) ?_
    refine fine_ask O (n := 100000) (q := 12) (by kernel_rfl) ?_
    refine fine_ask O (n := 100000) (q := 12) (by kernel_rfl) ?_
    refine fine_ask O (n := 100000) (q := 4) (by kernel_rfl) ?_
    refine fine_ask O (n := 100000) (q := 8) (by kernel_rfl) ?_
    refine fine_ask O (n := 100000) (q := 3) (by kernel_rfl) ?_
    refine fine_ask O (n := 100000) (q := 3) (by kernel_rfl) ?_
    refine fine_ask O (n := 100000) (q := 3) (by kernel_rfl) ?_
    refine fine_ask O (n := 100000) (q := 3) (by kernel_rfl) ?_
    refine fine_ask O (n := 100000) (q := 3) (by kernel_rfl) ?_
    refine fine_ask O (n := 100000) (q := 3) (by kernel_rfl) ?_
    refine fine_ask O (n := 100000) (q := 8) (by kernel_rfl) ?_
    refine fine_ask O (n := 100000) (q := 51) (by kernel_rfl) ?_
    refine fine_ask O (n := 100000) (q := 19) (by kernel_rfl) ?_
    refine fine_ask O (n := 100000) (q := 17) (by kernel_rfl) ?_
    refine fine_tok O (n := 100000) (q := 1000) (by kernel_rfl) (by kernel_rfl) (fun _ => by kernel_rfl) (fun _ _ => by kernel_rfl) ?_
    intro u tk
    exact fine_true (by kernel_rfl) hR
end Mine

namespace Mine
theorem g09 : RunOk 0 ⟨#[43, 83, 65]⟩ ∧
  RunOk 0 ⟨#[43, 83, 85]⟩ ∧
  RunOk 0 ⟨#[43, 84, 72]⟩ ∧
  RunOk 0 ⟨#[43, 84, 117]⟩ ∧
  RunOk 0 ⟨#[43, 102, 114]⟩ ∧
  RunOk 0 ⟨#[43, 109, 111]⟩ ∧
  RunOk 0 ⟨#[43, 119, 69]⟩ := by
  refine ⟨?_, ?_, ?_, ?_, ?_, ?_, ?_⟩
  · intro P t m p D O hR
    refine fine_go O (n := 100000) (q := 4) ?_
    refine fine_ask O (n := 100000) (q := 12) (by kernel_rfl) ?_
    refine fine_ask O (n := 100000) (q := 12) (by kernel_rfl) ?_
    refine fine_ask O (n := 100000) (q := 8) (by kernel_rfl) ?_
    refine fine_contains O (n := 100000) (q := 4) 626 ⟨#[83, 65]⟩ (Nat.add (St.t₀ (V2 P t)) 9) (by kernel_rfl) (by kernel_rfl) ?_
    refine fine_ask O (n := 100000) (q := 2) (by kernel_rfl) ?_
    refine fine_ask O (n := 100000) (q := 2) (by kernel_rfl) ?_
    refine fine_ask O (n := 100000) (q := 9) (by kernel_rfl) ?_
    refine fine_ask O (n := 100000) (q := 51) (by kernel_rfl) ?_
    refine fine_ask O (n := 100000) (q := 19) (by kernel_rfl) ?_
    refine fine_ask O (n := 100000) (q := 4) (by kernel_rfl) ?_
    refine fine_ask O (n := 100000) (q := 23) (by kernel_rfl) ?_
    refine fine_ask O (n := 100000) (q := 2) (by kernel_rfl) ?_
    refine fine_par O (n := 100000) (q := 28) 37 par37 (by kernel_rfl) (by kernel_rfl) (by kernel_rfl) (by kernel_rfl) (by kernel_rfl) ?_
    intro g
    refine fine_ask O (n := 100000) (q := 1) (by kernel_rfl) ?_
    refine fine_same O (n := 100000) (q := 1000) 693 628 (by kernel_rfl) (by kernel_rfl) (by kernel_rfl) ?_
    exact fine_true (by kernel_rfl) hR
  · intro P t m p D O hR
    refine fine_go O (n := 100000) (q := 4) ?_
    refine fine_ask O (n := 100000) (q := 12) (by kernel_rfl) ?_
    refine fine_ask O (n := 100000) (q := 12) (by kernel_rfl) ?_
    refine fine_ask O (n := 100000) (q := 8) (by kernel_rfl) ?_
    refine fine_contains O (n := 100000) (q := 4) 626 ⟨#[83, 85]⟩ (Nat.add (St.t₀ (V2 P t)) 9) (by kernel_rfl) (by kernel_rfl) ?_
    refine fine_ask O (n := 100000) (q := 2) (by kernel_rfl) ?_
    refine fine_ask O (n := 100000) (q := 2) (by kernel_rfl) ?_
    refine fine_ask O (n := 100000) (q := 9) (by kernel_rfl) ?_
    refine fine_ask O (n := 100000) (q := 51) (by kernel_rfl) ?_
    refine fine_ask O (n := 100000) (q := 19) (by kernel_rfl) ?_
    refine fine_ask O (n := 100000) (q := 4) (by kernel_rfl) ?_
    refine fine_ask O (n := 100000) (q := 23) (by kernel_rfl) ?_
    refine fine_ask O (n := 100000) (q := 2) (by kernel_rfl) ?_
    refine fine_par O (n := 100000) (q := 28) 37 par37 (by kernel_rfl) (by kernel_rfl) (by kernel_rfl) (by kernel_rfl) (by kernel_rfl) ?_
    intro g
    refine fine_ask O (n := 100000) (q := 1) (by kernel_rfl) ?_
    refine fine_same O (n := 100000) (q := 1000) 693 628 (by kernel_rfl) (by kernel_rfl) (by kernel_rfl) ?_
    exact fine_true (by kernel_rfl) hR
  · intro P t m p D O hR
    refine fine_go O (n := 100000) (q := 4) ?_
    refine fine_ask O (n := 100000) (q := 12) (by kernel_rfl) ?_
    refine fine_ask O (n := 100000) (q := 12) (by kernel_rfl) ?_
    refine fine_ask O (n := 100000) (q := 8) (by kernel_rfl) ?_
    refine fine_contains O (n := 100000) (q := 4) 626 ⟨#[84, 72]⟩ (Nat.add (St.t₀ (V2 P t)) 9) (by kernel_rfl) (by kernel_rfl) ?_
    refine fine_ask O (n := 100000) (q := 2) (by kernel_rfl) ?_
    refine fine_ask O (n := 100000) (q := 2) (by kernel_rfl) ?_
    refine fine_ask O (n := 100000) (q := 9) (by kernel_rfl) ?_
    refine fine_ask O (n := 100000) (q := 51) (by kernel_rfl) ?_
    refine fine_ask O (n := 100000) (q := 19) (by kernel_rfl) ?_
    refine fine_ask O (n := 100000) (q := 4) (by kernel_rfl) ?_
    refine fine_ask O (n := 100000) (q := 23) (by kernel_rfl) ?_
    refine fine_ask O (n := 100000) (q := 2) (by kernel_rfl) ?_
    refine fine_par O (n := 100000) (q := 28) 37 par37 (by kernel_rfl) (by kernel_rfl) (by kernel_rfl) (by kernel_rfl) (by kernel_rfl) ?_
    intro g
    refine fine_ask O (n := 100000) (q := 1) (by kernel_rfl) ?_
    refine fine_same O (n := 100000) (q := 1000) 693 628 (by kernel_rfl) (by kernel_rfl) (by kernel_rfl) ?_
    exact fine_true (by kernel_rfl) hR
  · intro P t m p D O hR
    refine fine_go O (n := 100000) (q := 4) ?_
    refine fine_ask O (n := 100000) (q := 12) (by kernel_rfl) ?_
    refine fine_ask O (n := 100000) (q := 12) (by kernel_rfl) ?_
    refine fine_ask O (n := 100000) (q := 8) (by kernel_rfl) ?_
    refine fine_contains O (n := 100000) (q := 4) 626 ⟨#[84, 85]⟩ (Nat.add (St.t₀ (V2 P t)) 9) (by kernel_rfl) (by kernel_rfl) ?_
    refine fine_ask O (n := 100000) (q := 2) (by kernel_rfl) ?_
    refine fine_ask O (n := 100000) (q := 2) (by kernel_rfl) ?_
    refine fine_ask O (n := 100000) (q := 9) (by kernel_rfl) ?_
    refine fine_ask O (n := 100000) (q := 51) (by kernel_rfl) ?_
    refine fine_ask O (n := 100000) (q := 19) (by kernel_rfl) ?_
    refine fine_ask O (n := 100000) (q := 4) (by kernel_rfl) ?_
    refine fine_ask O (n := 100000) (q := 23) (by kernel_rfl) ?_
    refine fine_ask O (n := 100000) (q := 2) (by kernel_rfl) ?_
    refine fine_par O (n := 100000) (q := 28) 37 par37 (by kernel_rfl) (by kernel_rfl) (by kernel_rfl) (by kernel_rfl) (by kernel_rfl) ?_
    intro g
    refine fine_ask O (n := 100000) (q := 1) (by kernel_rfl) ?_
    refine fine_same O (n := 100000) (q := 1000) 693 628 (by kernel_rfl) (by kernel_rfl) (by kernel_rfl) ?_
    exact fine_true (by kernel_rfl) hR
  · intro P t m p D O hR
    refine fine_go O (n := 100000) (q := 4) ?_
    refine fine_ask O (n := 100000) (q := 12) (by kernel_rfl) ?_
    refine fine_ask O (n := 100000) (q := 12) (by kernel_rfl) ?_
    refine fine_ask O (n := 100000) (q := 8) (by kernel_rfl) ?_
    refine fine_contains O (n := 100000) (q := 4) 626 ⟨#[70, 82]⟩ (Nat.add (St.t₀ (V2 P t)) 9) (by kernel_rfl) (by kernel_rfl) ?_
    refine fine_ask O (n := 100000) (q := 2) (by kernel_rfl) ?_
    refine fine_ask O (n := 100000) (q := 2) (by kernel_rfl) ?_
    refine fine_ask O (n := 100000) (q := 9) (by kernel_rfl) ?_
    refine fine_ask O (n := 100000) (q := 51) (by kernel_rfl) ?_
    refine fine_ask O (n := 100000) (q := 19) (by kernel_rfl) ?_
    refine fine_ask O (n := 100000) (q := 4) (by kernel_rfl) ?_
    refine fine_ask O (n := 100000) (q := 23) (by kernel_rfl) ?_
    refine fine_ask O (n := 100000) (q := 2) (by kernel_rfl) ?_
    refine fine_par O (n := 100000) (q := 28) 37 par37 (by kernel_rfl) (by kernel_rfl) (by kernel_rfl) (by kernel_rfl) (by kernel_rfl) ?_
    intro g
    refine fine_ask O (n := 100000) (q := 1) (by kernel_rfl) ?_
    refine fine_same O (n := 100000) (q := 1000) 693 628 (by kernel_rfl) (by kernel_rfl) (by kernel_rfl) ?_
    exact fine_true (by kernel_rfl) hR
  · intro P t m p D O hR
    refine fine_go O (n := 100000) (q := 4) ?_
    refine fine_ask O (n := 100000) (q := 12) (by kernel_rfl) ?_
    refine fine_ask O (n := 100000) (q := 12) (by kernel_rfl) ?_
    refine fine_ask O (n := 100000) (q := 8) (by kernel_rfl) ?_
    refine fine_contains O (n := 100000) (q := 4) 626 ⟨#[77, 79]⟩ (Nat.add (St.t₀ (V2 P t)) 9) (by kernel_rfl) (by kernel_rfl) ?_
    refine fine_ask O (n := 100000) (q := 2) (by kernel_rfl) ?_
    refine fine_ask O (n := 100000) (q := 2) (by kernel_rfl) ?_
    refine fine_ask O (n := 100000) (q := 9) (by kernel_rfl) ?_
    refine fine_ask O (n := 100000) (q := 51) (by kernel_rfl) ?_
    refine fine_ask O (n := 100000) (q := 19) (by kernel_rfl) ?_
    refine fine_ask O (n := 100000) (q := 4) (by kernel_rfl) ?_
    refine fine_ask O (n := 100000) (q := 23) (by kernel_rfl) ?_
    refine fine_ask O (n := 100000) (q := 2) (by kernel_rfl) ?_
    refine fine_par O (n := 100000) (q := 28) 37 par37 (by kernel_rfl) (by kernel_rfl) (by kernel_rfl) (by kernel_rfl) (by kernel_rfl) ?_
    intro g
    refine fine_ask O (n := 100000) (q := 1) (by kernel_rfl) ?_
    refine fine_same O (n := 100000) (q := 1000) 693 628 (by kernel_rfl) (by kernel_rfl) (by kernel_rfl) ?_
    exact fine_true (by kernel_rfl) hR
  · intro P t m p D O hR
    refine fine_go O (n := 100000) (q := 4) ?_
    refine fine_ask O (n := 100000) (q := 12) (by kernel_rfl) ?_
    refine fine_ask O (n := 100000) (q := 12) (by kernel_rfl) ?_
    refine fine_ask O (n := 100000) (q := 8) (by kernel_rfl) ?_
    refine fine_contains O (n := 100000) (q := 4) 626 ⟨#[87, 69]⟩ (Nat.add (St.t₀ (V2 P t)) 9) (by kernel_rfl) (by kernel_rfl) ?_
    refine fine_ask O (n := 100000) (q := 2) (by kernel_rfl) ?_
    refine fine_ask O (n := 100000) (q := 2) (by kernel_rfl) ?_
    refine fine_ask O (n := 100000) (q := 9) (by kernel_rfl) ?_
    refine fine_ask O (n := 100000) (q := 51) (by kernel_rfl) ?_
    refine fine_ask O (n := 100000) (q := 19) (by kernel_rfl) ?_
    refine fine_ask O (n := 100000) (q := 4) (by kernel_rfl) ?_
    refine fine_ask O (n := 100000) (q := 23) (by kernel_rfl) ?_
    refine fine_ask O (n := 100000) (q := 2) (by kernel_rfl) ?_
    refine fine_par O (n := 100000) (q := 28) 37 par37 (by kernel_rfl) (by kernel_rfl) (by kernel_rfl) (by kernel_rfl) (by kernel_rfl) ?_
    intro g
    refine fine_ask O (n := 100000) (q := 1) (by kernel_rfl) ?_
    refine fine_same O (n := 100000) (q := 1000) 693 628 (by kernel_rfl) (by kernel_rfl) (by kernel_rfl) ?_
    exact fine_true (by kernel_rfl) hR
end Mine

namespace Mine
theorem g10 : RunOk 0 ⟨#[83, 65]⟩ ∧
  RunOk 0 ⟨#[83, 85]⟩ ∧
  RunOk 0 ⟨#[84, 72]⟩ ∧
  RunOk 0 ⟨#[84, 117]⟩ ∧
  RunOk 0 ⟨#[102, 114]⟩ ∧
  RunOk 0 ⟨#[109, 111]⟩ ∧
  RunOk 0 ⟨#[119, 69]⟩ := by
  refine ⟨?_, ?_, ?_, ?_, ?_, ?_, ?_⟩
  · intro P t m p D O hR
    refine fine_go O (n := 100000) (q := 4) ?_
    refine fine_ask O (n := 100000) (q := 12) (by kernel_rfl) ?_
    refine fine_ask O (n := 100000) (q := 12) (by kernel_rfl) ?_
    refine fine_ask O (n := 100000) (q := 4) (by kernel_rfl) ?_
    refine fine_ask O (n := 100000) (q := 6) (by kernel_rfl) ?_
    refine fine_contains O (n := 100000) (q := 4) 626 ⟨#[83, 65]⟩ (Nat.add (St.t₀ (V2 P t)) 8) (by kernel_rfl) (by kernel_rfl) ?_
    refine fine_ask O (n := 100000) (q := 2) (by kernel_rfl) ?_
    refine fine_ask O (n := 100000) (q := 2) (by kernel_rfl) ?_
    refine fine_ask O (n := 100000) (q := 9) (by kernel_rfl) ?_
    refine fine_ask O (n := 100000) (q := 51) (by kernel_rfl) ?_
    refine fine_ask O (n := 100000) (q := 19) (by kernel_rfl) ?_
    refine fine_ask O (n := 100000) (q := 4) (by kernel_rfl) ?_
    refine fine_ask O (n := 100000) (q := 23) (by kernel_rfl) ?_
    refine fine_ask O (n := 100000) (q := 2) (by kernel_rfl) ?_
    refine fine_par O (n := 100000) (q := 28) 37 par37 (by kernel_rfl) (by kernel_rfl) (by kernel_rfl) (by kernel_rfl) (by kernel_rfl) ?_
    intro g
    refine fine_ask O (n := 100000) (q := 1) (by kernel_rfl) ?_
    refine fine_same O (n := 100000) (q := 1000) 693 628 (by kernel_rfl) (by kernel_rfl) (by kernel_rfl) ?_
    exact fine_true (by kernel_rfl) hR
  · intro P t m p D O hR
    refine fine_go O (n := 100000) (q := 4) ?_
    refine fine_ask O (n := 100000) (q := 12) (by kernel_rfl) ?_
    refine fine_ask O (n := 100000) (q := 12) (by kernel_rfl) ?_
    refine fine_ask O (n := 100000) (q := 4) (by kernel_rfl) ?_
    refine fine_ask O (n := 100000) (q := 6) (by kernel_rfl) ?_
    refine fine_contains O (n := 100000) (q := 4) 626 ⟨#[83, 85]⟩ (Nat.add (St.t₀ (V2 P t)) 8) (by kernel_rfl) (by kernel_rfl) ?_
    refine fine_ask O (n := 100000) (q := 2) (by kernel_rfl) ?_
    refine fine_ask O (n := 100000) (q := 2) (by kernel_rfl) ?_
    refine fine_ask O (n := 100000) (q := 9) (by kernel_rfl) ?_
    refine fine_ask O (n := 100000) (q := 51) (by kernel_rfl) ?_
    refine fine_ask O (n := 100000) (q := 19) (by kernel_rfl) ?_
    refine fine_ask O (n := 100000) (q := 4) (by kernel_rfl) ?_
    refine fine_ask O (n := 100000) (q := 23) (by kernel_rfl) ?_
    refine fine_ask O (n := 100000) (q := 2) (by kernel_rfl) ?_
    refine fine_par O (n := 100000) (q := 28) 37 par37 (by kernel_rfl) (by kernel_rfl) (by kernel_rfl) (by kernel_rfl) (by kernel_rfl) ?_
    intro g
    refine fine_ask O (n := 100000) (q := 1) (by kernel_rfl) ?_
    refine fine_same O (n := 100000) (q := 1000) 693 628 (by kernel_rfl) (by kernel_rfl) (by kernel_rfl) ?_
    exact fine_true (by kernel_rfl) hR
  · intro P t m p D O hR
    refine fine_go O (n := 100000) (q := 4) ?_
    refine fine_ask O (n := 100000) (q := 12) (by kernel_rfl) ?_
    refine fine_ask O (n := 100000) (q := 12) (by kernel_rfl) ?_
    refine fine_ask O (n := 100000) (q := 4) (by kernel_rfl) ?_
    refine fine_ask O (n := 100000) (q := 6) (by kernel_rfl) ?_
    refine fine_contains O (n := 100000) (q := 4) 626 ⟨#[84, 72]⟩ (Nat.add (St.t₀ (V2 P t)) 8) (by kernel_rfl) (by kernel_rfl) ?_
    refine fine_ask O (n := 100000) (q := 2) (by kernel_rfl) ?_
    refine fine_ask O (n := 100000) (q := 2) (by kernel_rfl) ?_
    refine fine_ask O (n := 100000) (q := 9) (by kernel_rfl) ?_
    refine fine_ask O (n := 100000) (q := 51) (by kernel_rfl) ?_
    refine fine_ask O (n := 100000) (q := 19) (by kernel_rfl) ?_
    refine fine_ask O (n := 100000) (q := 4) (by kernel_rfl) ?_
    refine fine_ask O (n := 100000) (q := 23) (by kernel_rfl) ?_
    refine fine_ask O (n := 100000) (q := 2) (by kernel_rfl) ?_
    refine fine_par O (n := 100000) (q := 28) 37 par37 (by kernel_rfl) (by kernel_rfl) (by kernel_rfl) (by kernel_rfl) (by kernel_rfl) ?_
    intro g
    refine fine_ask O (n := 100000) (q := 1) (by kernel_rfl) ?_
    refine fine_same O (n := 100000) (q := 1000) 693 628 (by kernel_rfl) (by kernel_rfl) (by kernel_rfl) ?_
    exact fine_true (by kernel_rfl) hR
  · intro P t m p D O hR
    refine fine_go O (n := 100000) (q := 4) ?_
    refine fine_ask O (n := 100000) (q := 12) (by kernel_rfl) ?_
    refine fine_ask O (n := 100000) (q := 12) (by kernel_rfl) ?_
    refine fine_ask O (n := 100000) (q := 4) (by kernel_rfl) ?_
    refine fine_ask O (n := 100000) (q := 6) (by kernel_rfl) ?_
    refine fine_contains O (n := 100000) (q := 4) 626 ⟨#[84, 85]⟩ (Nat.add (St.t₀ (V2 P t)) 8) (by kernel_rfl) (by kernel_rfl) ?_
    refine fine_ask O (n := 100000) (q := 2) (by kernel_rfl) ?_
    refine fine_ask O (n := 100000) (q := 2) (by kernel_rfl) ?_
    refine fine_ask O (n := 100000) (q := 9) (by kernel_rfl) ?_
    refine fine_ask O (n := 100000) (q := 51) (by kernel_rfl) ?_
    refine fine_ask O (n := 100000) (q := 19) (by kernel_rfl) ?_
    refine fine_ask O (n := 100000) (q := 4) (by kernel_rfl) ?_
    refine fine_ask O (n := 100000) (q := 23) (by kernel_rfl) ?_
    refine fine_ask O (n := 100000) (q := 2) (by kernel_rfl) ?_
    refine fine_par O (n := 100000) (q := 28) 37 par37 (by kernel_rfl) (by kernel_rfl) (by kernel_rfl) (by kernel_rfl) (by kernel_rfl) ?_
    intro g
    refine fine_ask O (n := 100000) (q := 1) (by kernel_rfl) ?_
    refine fine_same O (n := 100000) (q := 1000) 693 628 (by kernel_rfl) (by kernel_rfl) (by kernel_rfl) ?_
    exact fine_true (by kernel_rfl) hR
  · intro P t m p D O hR
    refine fine_go O (n := 100000) (q := 4) ?_
    refine fine_ask O (n := 100000) (q := 12) (by kernel_rfl) ?_
    refine fine_ask O (n := 100000) (q := 12) (by kernel_rfl) ?_
    refine fine_ask O (n := 100000) (q := 4) (by kernel_rfl) ?_
    refine fine_ask O (n := 100000) (q := 6) (by kernel_rfl) ?_
    refine fine_contains O (n := 100000) (q := 4) 626 ⟨#[70, 82]⟩ (Nat.add (St.t₀ (V2 P t)) 8) (by kernel_rfl) (by kernel_rfl) ?_
    refine fine_ask O (n := 100000) (q := 2) (by kernel_rfl) ?_
    refine fine_ask O (n := 100000) (q := 2) (by kernel_rfl) ?_
    refine fine_ask O (n := 100000) (q := 9) (by kernel_rfl) ?_
    refine fine_ask O (n := 100000) (q := 51) (by kernel_rfl) ?_
    refine fine_ask O (n := 100000) (q := 19) (by kernel_rfl) ?_
    refine fine_ask O (n := 100000) (q := 4) (by kernel_rfl) ?_
    refine fine_ask O (n := 100000) (q := 23) (by kernel_rfl) ?_
    refine fine_ask O (n := 100000) (q := 2) (by kernel_rfl) ?_
    refine fine_par O (n := 100000) (q := 28) 37 par37 (by kernel_rfl) (by kernel_rfl) (by kernel_rfl) (by kernel_rfl) (by kernel_rfl) ?_
    intro g
    refine fine_ask O (n := 100000) (q := 1) (by kernel_rfl) ?_
    refine fine_same O (n := 100000) (q := 1000) 693 628 (by kernel_rfl) (by kernel_rfl) (by kernel_rfl) ?_
    exact fine_true (by kernel_rfl) hR
  · intro P t m p D O hR
    refine fine_go O (n := 100000) (q := 4) ?_
    refine fine_ask O (n := 100000) (q := 12) (by kernel_rfl) ?_
    refine fine_ask O (n := 100000) (q := 12) (by kernel_rfl) ?_
    refine fine_ask O (n := 100000) (q := 4) (by kernel_rfl) ?_
    refine fine_ask O (n := 100000) (q := 6) (by kernel_rfl) ?_
    refine fine_contains O (n := 100000) (q := 4) 626 ⟨#[77, 79]⟩ (Nat.add (St.t₀ (V2 P t)) 8) (by kernel_rfl) (by kernel_rfl) ?_
    refine fine_ask O (n := 100000) (q := 2) (by kernel_rfl) ?_
    refine fine_ask O (n := 100000) (q := 2) (by kernel_rfl) ?_
    refine fine_ask O (n := 100000) (q := 9) (by kernel_rfl) ?_
    refine fine_ask O (n := 100000) (q := 51) (by kernel_rfl) ?_
    refine fine_ask O (n := 100000) (q := 19) (by kernel_rfl) ?_
    refine fine_ask O (n := 100000) (q := 4) (by kernel_rfl) ?_
    refine fine_ask O (n := 100000) (q := 23) (by kernel_rfl) ?_
    refine fine_ask O (n := 100000) (q := 2) (by kernel_rfl) ?_
    refine fine_par O (n := 100000) (q := 28) 37 par37 (by kernel_rfl) (by kernel_rfl) (by kernel_rfl) (by kernel_rfl) (by kernel_rfl) ?_
    intro g
    refine fine_ask O (n := 100000) (q := 1) (by kernel_rfl) ?_
    refine fine_same O (n := 100000) (q := 1000) 693 628 (by kernel_rfl) (by kernel_rfl) (by kernel_rfl) ?_
    exact fine_true (by kernel_rfl) hR
  · intro P t m p D O hR
    refine fine_go O (n := 100000) (q := 4) ?_
    refine fine_ask O (n := 100000) (q := 12) (by kernel_rfl) ?_
    refine fine_ask O (n := 100000) (q := 12) (by kernel_rfl) ?_
    refine fine_ask O (n := 100000) (q := 4) (by kernel_rfl) ?_
    refine fine_ask O (n := 100000) (q := 6) (by kernel_rfl) ?_
    refine fine_contains O (n := 100000) (q := 4) 626 ⟨#[87, 69]⟩ (Nat.add (St.t₀ (V2 P t)) 8) (by kernel_rfl) (by kernel_rfl) ?_
    refine fine_ask O (n := 100000) (q := 2) (by kernel_rfl) ?_
    refine fine_ask O (n := 100000) (q := 2) (by kernel_rfl) ?_
    refine fine_ask O (n := 100000) (q := 9) (by kernel_rfl) ?_
    refine fine_ask O (n := 100000) (q := 51) (by kernel_rfl) ?_
    refine fine_ask O (n := 100000) (q := 19) (by kernel_rfl) ?_
    refine fine_ask O (n := 100000) (q := 4) (by kernel_rfl) ?_
    refine fine_ask O (n := 100000) (q := 23) (by kernel_rfl) ?_
    refine fine_ask O (n := 100000) (q := 2) (by kernel_rfl) ?_
    refine fine_par O (n := 100000) (q := 28) 37 par37 (by kernel_rfl) (by kernel_rfl) (by kernel_rfl) (by kernel_rfl) (by kernel_rfl) ?_
    intro g
    refine fine_ask O (n := 100000) (q := 1) (by kernel_rfl) ?_
    refine fine_same O (n := 100000) (q := 1000) 693 628 (by kernel_rfl) (by kernel_rfl) (by kernel_rfl) ?_
    exact fine_true (by kernel_rfl) hR
end Mine

namespace Mine
theorem g11 : RunOk 0 ⟨#[45, 83, 65]⟩ ∧
  RunOk 0 ⟨#[45, 83, 85]⟩ ∧
  RunOk 0 ⟨#[45, 84, 72]⟩ ∧
  RunOk 0 ⟨#[45, 84, 117]⟩ ∧
  RunOk 0 ⟨#[45, 102, 114]⟩ ∧
  RunOk 0 ⟨#[45, 109, 111]⟩ ∧
  RunOk 0 ⟨#[45, 119, 69]⟩ := by
  refine ⟨?_, ?_, ?_, ?_, ?_, ?_, ?_⟩
  · intro P t m p D O hR
    refine fine_go O (n := 100000) (q := 4) ?_
    refine fine_ask O (n := 100000) (q := 12) (by kernel_rfl) ?_
    refine fine_ask O (n := 100000) (q := 12) (by kernel_rfl) ?_
    refine fine_ask O (n := 100000) (q := 4) (by kernel_rfl) ?_
    refine fine_ask O (n := 100000) (q := 8) (by kernel_rfl) ?_
    refine fine_contains O (n := 100000) (q := 4) 627 ⟨#[83, 65]⟩ (Nat.add (St.t₀ (V2 P t)) 9) (by kernel_rfl) (by kernel_rfl) ?_
    refine fine_ask O (n := 100000) (q := 2) (by kernel_rfl) ?_
    refine fine_ask O (n := 100000) (q := 2) (by kernel_rfl) ?_
    refine fine_ask O (n := 100000) (q := 9) (by kernel_rfl) ?_
    refine fine_ask O (n := 100000) (q := 51) (by kernel_rfl) ?_
    refine fine_ask O (n := 100000) (q := 19) (by kernel_rfl) ?_
    refine fine_ask O (n := 100000) (q := 4) (by kernel_rfl) ?_
    refine fine_ask O (n := 100000) (q := 23) (by kernel_rfl) ?_
    refine fine_ask O (n := 100000) (q := 6) (by kernel_rfl) ?_
    refine fine_par O (n := 100000) (q := 28) 38 par38 (by kernel_rfl) (by kernel_rfl) (by kernel_rfl) (by kernel_rfl) (by kernel_rfl) ?_
    intro g
    refine fine_ask O (n := 100000) (q := 1) (by kernel_rfl) ?_
    refine fine_same O (n := 100000) (q := 1000) 694 629 (by kernel_rfl) (by kernel_rfl) (by kernel_rfl) ?_
    exact fine_true (by kernel_rfl) hR
  · intro P t m p D O hR
    refine fine_go O (n := 100000) (q := 4) ?_
    refine fine_ask O (n := 100000) (q := 12) (by kernel_rfl) ?_
    refine fine_ask O (n := 100000) (q := 12) (by kernel_rfl) ?_
    refine fine_ask O (n := 100000) (q := 4) (by kernel_rfl) ?_
    refine fine_ask O (n := 100000) (q := 8) (by kernel_rfl) ?_
    refine fine_contains O (n := 100000) (q := 4) 627 ⟨#[83, 85]⟩ (Nat.add (St.t₀ (V2 P t)) 9) (by kernel_rfl) (by kernel_rfl) ?_
    refine fine_ask O (n := 100000) (q := 2) (by kernel_rfl) ?_
    refine fine_ask O (n := 100000) (q := 2) (by kernel_rfl) ?_
    refine fine_ask O (n := 100000) (q := 9) (by kernel_rfl) ?_
    refine fine_ask O (n := 100000) (q := 51) (by kernel_rfl) ?_
    refine fine_ask O (n := 100000) (q := 19) (by kernel_rfl) ?_
    refine fine_ask O (n := 100000) (q := 4) (by kernel_rfl) ?_
    refine fine_ask O (n := 100000) (q := 23) (by kernel_rfl) ?_
    refine fine_ask O (n := 100000) (q := 6) (by kernel_rfl) ?_
    refine fine_par O (n := 100000) (q := 28) 38 par38 (by kernel_rfl) (by kernel_rfl) (by kernel_rfl) (by kernel_rfl) (by kernel_rfl) ?_
    intro g
    refine fine_ask O (n := 100000) (q := 1) (by kernel_rfl) ?_
    refine fine_same O (n := 100000) (q := 1000) 694 629 (by kernel_rfl) (by kernel_rfl) (by kernel_rfl) ?_
    exact fine_true (by kernel_rfl) hR
  · intro P t m p D O hR
    refine fine_go O (n := 100000) (q := 4) ?_
    refine fine_ask O (n := 100000) (q := 12) (by kernel_rfl) ?_
    refine fine_ask O (n := 100000) (q := 12) (by kernel_rfl) ?_
    refine fine_ask O (n := 100000) (q := 4) (by kernel_rfl) ?_
    refine fine_ask O (n := 100000) (q := 8) (by kernel_rfl) ?_
    refine fine_contains O (n := 100000) (q := 4) 627 ⟨#[84, 72]⟩ (Nat.add (St.t₀ (V2 P t)) 9) (by kernel_rfl) (by kernel_rfl) ?_
    refine fine_ask O (n := 100000) (q := 2) (by kernel_rfl) ?_
    refine fine_ask O (n := 100000) (q := 2) (by kernel_rfl) ?_
    refine fine_ask O (n := 100000) (q := 9) (by kernel_rfl) ?_
    refine fine_ask O (n := 100000) (q := 51) (by kernel_rfl) ?_
    refine fine_ask O (n := 100000) (q := 19) (by kernel_rfl) ?_
    refine fine_ask O (n := 100000) (q := 4) (by kernel_rfl) ?_
    refine fine_ask O (n := 100000) (q := 23) (by kernel_rfl) ?_
    refine fine_ask O (n := 100000) (q := 6) (by kernel_rfl) ?_
    refine fine_par O (n := 100000) (q := 28) 38 par38 (by kernel_rfl) (by kernel_rfl) (by kernel_rfl) (by kernel_rfl) (by kernel_rfl) ?_
    intro g
    refine fine_ask O (n := 100000) (q := 1) (by kernel_rfl) ?_
    refine fine_same O (n := 100000) (q := 1000) 694 629 (by kernel_rfl) (by kernel_rfl) (by kernel_rfl) ?_
    exact fine_true (by kernel_rfl) hR
  · intro P t m p D O hR
    refine fine_go O (n := 100000) (q := 4) ?_
    refine fine_ask O (n := 100000) (q := 12) (by kernel_rfl) ?_
    refine fine_ask O (n := 100000) (q := 12) (by kernel_rfl) ?_
    refine fine_ask O (n := 100000) (q := 4) (by kernel_rfl) ?_
    refine fine_ask O (n := 100000) (q := 8) (by kernel_rfl) ?_
    refine fine_contains O (n := 100000) (q := 4) 627 ⟨#[84, 85]⟩ (Nat.add (St.t₀ (V2 P t)) 9) (by kernel_rfl) (by kernel_rfl) ?_
    refine fine_ask O (n := 100000) (q := 2) (by kernel_rfl) ?_
    refine fine_ask O (n := 100000) (q := 2) (by kernel_rfl) ?_
    refine fine_ask O (n := 100000) (q := 9) (by kernel_rfl) ?_
    refine fine_ask O (n := 100000) (q := 51) (by kernel_rfl) ?_
    refine fine_ask O (n := 100000) (q := 19) (by kernel_rfl) ?_
    refine fine_ask O (n := 100000) (q := 4) (by kernel_rfl) ?_
    refine fine_ask O (n := 100000) (q := 23) (by kernel_rfl) ?_
    refine fine_ask O (n := 100000) (q := 6) (by kernel_rfl) ?_
    refine fine_par O (n := 100000) (q := 28) 38 par38 (by kernel_rfl) (by kernel_rfl) (by kernel_rfl) (by kernel_rfl) (by kernel_rfl) ?_
    intro g
    refine fine_ask O (n := 100000) (q := 1) (by kernel_rfl) ?_
    refine fine_same O (n := 100000) (q := 1000) 694 629 (by kernel_rfl) (by kernel_rfl) (by kernel_rfl) ?_
    exact fine_true (by kernel_rfl) hR
  · intro P t m p D O hR
    refine fine_go O (n := 100000) (q := 4) ?_
    refine fine_ask O (n := 100000) (q := 12) (by kernel_rfl) ?_
    refine fine_ask O (n := 100000) (q := 12) (by kernel_rfl) ?_
    refine fine_ask O (n := 100000) (q := 4) (by kernel_rfl) ?_
    refine fine_ask O (n := 100000) (q := 8) (by kernel_rfl) ?_
    refine fine_contains O (n := 100000) (q := 4) 627 ⟨#[70, 82]⟩ (Nat.add (St.t₀ (V2 P t)) 9) (by kernel_rfl) (by kernel_rfl) ?_
    refine fine_ask O (n := 100000) (q := 2) (by kernel_rfl) ?_
    refine fine_ask O (n := 100000) (q := 2) (by kernel_rfl) ?_
    refine fine_ask O (n := 100000) (q := 9) (by kernel_rfl) ?_
    refine fine_ask O (n := 100000) (q := 51) (by kernel_rfl) ?_
    refine fine_ask O (n := 100000) (q := 19) (by kernel_rfl) ?_
    refine fine_ask O (n := 100000) (q := 4) (by kernel_rfl) ?_
    refine fine_ask O (n := 100000) (q := 23) (by kernel_rfl) ?_
    refine fine_ask O (n := 100000) (q := 6) (by kernel_rfl) ?_
    refine fine_par O (n := 100000) (q := 28) 38 par38 (by kernel_rfl) (by kernel_rfl) (by kernel_rfl) (by kernel_rfl) (by kernel_rfl) ?_
    intro g
    refine fine_ask O (n := 100000) (q := 1) (by kernel_rfl) ?_
    refine fine_same O (n := 100000) (q := 1000) 694 629 (by kernel_rfl) (by kernel_rfl) (by kernel_rfl) ?_
    exact fine_true (by kernel_rfl) hR
  · intro P t m p D O hR
    refine fine_go O (n := 100000) (q := 4) ?_
    refine fine_ask O (n := 100000) (q := 12) (by kernel_rfl) ?_
    refine fine_ask O (n := 100000) (q := 12) (by kernel_rfl) ?_
    refine fine_ask O (n := 100000) (q := 4) (by kernel_rfl) ?_
    refine fine_ask O (n := 100000) (q := 8) (by kernel_rfl) ?_
    refine fine_contains O (n := 100000) (q := 4) 627 ⟨#[77, 79]⟩ (Nat.add (St.t₀ (V2 P t)) 9) (by kernel_rfl) (by kernel_rfl) ?_
    refine fine_ask O (n := 100000) (q := 2) (by kernel_rfl) ?_
    refine fine_ask O (n := 100000) (q := 2) (by kernel_rfl) ?_
    refine fine_ask O (n := 100000) (q := 9) (by kernel_rfl) ?_
    refine fine_ask O (n := 100000) (q := 51) (by kernel_rfl) ?_
    refine fine_ask O (n := 100000) (q := 19) (by kernel_rfl) ?_
    refine fine_ask O (n := 100000) (q := 4) (by kernel_rfl) ?_
    refine fine_ask O (n := 100000) (q := 23) (by kernel_rfl) ?_
    refine fine_ask O (n := 100000) (q := 6) (by kernel_rfl) ?_
    refine fine_par O (n := 100000) (q := 28) 38 par38 (by kernel_rfl) (by kernel_rfl) (by kernel_rfl) (by kernel_rfl) (by kernel_rfl) ?_
    intro g
    refine fine_ask O (n := 100000) (q := 1) (by kernel_rfl) ?_
    refine fine_same O (n := 100000) (q := 1000) 694 629 (by kernel_rfl) (by kernel_rfl) (by kernel_rfl) ?_
    exact fine_true (by kernel_rfl) hR
  · intro P t m p D O hR
    refine fine_go O (n := 100000) (q := 4) ?_
    refine fine_ask O (n := 100000) (q := 12) (by kernel_rfl) ?_
    refine fine_ask O (n := 100000) (q := 12) (by kernel_rfl) ?_
    refine fine_ask O (n := 100000) (q := 4) (by kernel_rfl) ?_
    refine fine_ask O (n := 100000) (q := 8) (by kernel_rfl) ?_
    refine fine_contains O (n := 100000) (q := 4) 627 ⟨#[87, 69]⟩ (Nat.add (St.t₀ (V2 P t)) 9) (by kernel_rfl) (by kernel_rfl) ?_
    refine fine_ask O (n := 100000) (q := 2) (by kernel_rfl) ?_
    refine fine_ask O (n := 100000) (q := 2) (by kernel_rfl) ?_
    refine fine_ask O (n := 100000) (q := 9) (by kernel_rfl) ?_
    refine fine_ask O (n := 100000) (q := 51) (by kernel_rfl) ?_
    refine fine_ask O (n := 100000) (q := 19) (by kernel_rfl) ?_
    refine fine_ask O (n := 100000) (q := 4) (by kernel_rfl) ?_
    refine fine_ask O (n := 100000) (q := 23) (by kernel_rfl) ?_
    refine fine_ask O (n := 100000) (q := 6) (by kernel_rfl) ?_
    refine fine_par O (n := 100000) (q := 28) 38 par38 (by kernel_rfl) (by kernel_rfl) (by kernel_rfl) (by kernel_rfl) (by kernel_rfl) ?_
    intro g
    refine fine_ask O (n := 100000) (q := 1) (by kernel_rfl) ?_
    refine fine_same O (n := 100000) (q := 1000) 694 629 (by kernel_rfl) (by kernel_rfl) (by kernel_rfl) ?_
    exact fine_true (by kernel_rfl) hR
end Mine

namespace Mine
theorem g12 : RunOk 0 ⟨#[43, 48, 83, 65]⟩ ∧
  RunOk 0 ⟨#[43, 48, 83, 85]⟩ ∧
  RunOk 0 ⟨#[43, 48, 84, 72]⟩ ∧
  RunOk 0 ⟨#[43, 48, 84, 117]⟩ ∧
  RunOk 0 ⟨#[43, 48, 102, 114]⟩ ∧
  RunOk 0 ⟨#[43, 48, 109, 111]⟩ ∧
  RunOk 0 ⟨#[43, 48, 119, 69]⟩ := by
  refine ⟨?_, ?_, ?_, ?_, ?_, ?_, ?_⟩
  · intro P t m p D O hR
    refine fine_go O (n := 100000) (q := 4) ?_
    refine fine_ask O (n := 100000) (q := 12) (by kernel_rfl) ?_
    refine fine_ask O (n := 100000) (q := 12) (by kernel_rfl) ?_
    refine fine_ask O (n := 100000) (q := 8) (by kernel_rfl) ?_
    refine fine_contains O (n := 100000) (q := 4) 626 ⟨#[83, 65]⟩ (Nat.add (St.t₀ (V2 P t)) 9) (by kernel_rfl) (by kernel_rfl) ?_
    refine fine_ask O (n := 100000) (q := 2) (by kernel_rfl) ?_
    refine fine_ask O (n := 100000) (q := 5) (by kernel_rfl) ?_
    refine fine_ask O (n := 100000) (q := 2) (by kernel_rfl) ?_
    refine fine_ask O (n := 100000) (q := 2) (by kernel_rfl) ?_
    refine fine_call O (n := 100000) (n' := 100000) (q := 0) (fun b c => by cases b <;> cases c <;> kernel_rfl) ?_
    refine fine_ask O (n := 100000) (q := 3) (by kernel_rfl) ?_
    refine fine_ask O (n := 100000) (q := 7) (by kernel_rfl) ?_
    refine fine_ask O (n := 100000) (q := 8) (by kernel_rfl) ?_
    refine fine_ask O (n := 100000) (q := 2) (by kernel_rfl) ?_
    refine fine_ask O (n := 100000) (q := 2) (by kernel_rfl) ?_
    refine fine_call O (n := 100000) (n' := 100000) (q := 0) (fun b c => by cases b <;> cases c <;> kernel_rfl) ?_
    refine fine_ask O (n := 100000) (q := 5) (by kernel_rfl) ?_
    refine fine_ask O (n := 100000) (q := 17) (by kernel_rfl) ?_
    refine fine_ask O (n := 100000) (q := 51) (by kernel_rfl) ?_
    refine fine_ask O (n := 100000) (q := 19) (by kernel_rfl) ?_
    refine fine_ask O (n := 100000) (q := 4) (by kernel_rfl) ?_
    refine fine_ask O (n := 100000) (q := 28) (by kernel_rfl) ?_
    refine fine_ask O (n := 100000) (q := 2) (by kernel_rfl) ?_
    refine fine_par O (n := 100000) (q := 28) 55 par55 (by kernel_rfl) (by kernel_rfl) (by kernel_rfl) (by kernel_rfl) (by kernel_rfl) ?_
    intro g
    refine fine_ask O (n := 100000) (q := 1) (by kernel_rfl) ?_
    refine fine_same O (n := 100000) (q := 1000) 711 646 (by kernel_rfl) (by kernel_rfl) (by kernel_rfl) ?_
    exact fine_true (by kernel_rfl) hR
  · intro P t m p D O hR
    refine fine_go O (n := 100000) (q := 4) ?_
    refine fine_ask O (n := 100000) (q := 12) (by kernel_rfl) ?_
    refine fine_ask O (n := 100000) (q := 12) (by kernel_rfl) ?_
    refine fine_ask O (n := 100000) (q := 8) (by kernel_rfl) ?_
    refine fine_contains O (n := 100000) (q := 4) 626 ⟨#[83, 85]⟩ (Nat.add (St.t₀ (V2 P t)) 9) (by kernel_rfl) (by kernel_rfl) ?_
    refine fine_ask O (n := 100000) (q := 2) (by kernel_rfl) ?_
    refine fine_ask O (n := 100000) (q := 5) (by kernel_rfl) ?_
    refine fine_ask O (n := 100000) (q := 2) (by kernel_rfl) ?_
    refine fine_ask O (n := 100000) (q := 2) (by kernel_rfl) ?_
    refine fine_call O (n := 100000) (n' := 100000) (q := 0) (fun b c => by cases b <;> cases c <;> kernel_rfl) ?_
    refine fine_ask O (n := 100000) (q := 3) (by kernel_rfl) ?_
    refine fine_ask O (n := 100000) (q := 7) (by kernel_rfl) ?_
    refine fine_ask O (n := 100000) (q := 8) (by kernel_rfl) ?_
    refine fine_ask O (n := 100000) (q := 2) (by kernel_rfl) ?_
    refine fine_ask O (n := 100000) (q := 2) (by kernel_rfl) ?_
    refine fine_call O (n := 100000) (n' := 100000) (q := 0) (fun b c => by cases b <;> cases c <;> kernel_rfl) ?_
    refine fine_ask O (n := 100000) (q := 5) (by kernel_rfl) ?_
    refine fine_ask O (n := 100000) (q := 17) (by kernel_rfl) ?_
    refine fine_ask O (n := 100000) (q := 51) (by kernel_rfl) ?_
    refine fine_ask O (n := 100000) (q := 19) (by kernel_rfl) ?_
    refine fine_ask O (n := 100000) (q := 4) (by kernel_rfl) ?_
    refine fine_ask O (n := 100000) (q := 28) (by kernel_rfl) ?_
    refine fine_ask O (n := 100000) (q := 2) (by kernel_rfl) ?_
    refine fine_par O (n := 100000) (q := 28) 55 par55 (by kernel_rfl) (by kernel_rfl) (by kernel_rfl) (by kernel_rfl) (by kernel_rfl) ?_
    intro g
    refine fine_ask O (n := 100000) (q := 1) (by kernel_rfl) ?_
    refine fine_same O (n := 100000) (q := 1000) 711 646 (by kernel_rfl) (by kernel_rfl) (by kernel_rfl) ?_
    exact fine_true (by kernel_rfl) hR
  · intro P t m p D O hR
    refine fine_go O (n := 100000) (q := 4) ?_
    refine fine_ask O (n := 100000) (q := 12) (by kernel_rfl) ?_
    refine fine_ask O (n := 100000) (q := 12) (by kernel_rfl) ?_
    refine fine_ask O (n := 100000) (q := 8) (by kernel_rfl) ?_
    refine fine_contains O (n := 100000) (q := 4) 626 ⟨#[84, 72]⟩ (Nat.add (St.t₀ (V2 P t)) 9) (by kernel_rfl) (by kernel_rfl) ?_
    refine fine_ask O (n := 100000) (q := 2) (by kernel_rfl) ?_
    refine fine_ask O (n := 100000) (q := 5) (by kernel_rfl) ?_
    refine fine_ask O (n := 100000) (q := 2) (by kernel_rfl) ?_
    refine fine_ask O (n := 100000) (q := 2) (by kernel_rfl) ?_
    refine fine_call O (n := 100000) (n' := 100000) (q := 0) (fun b c => by cases b <;> cases c <;> kernel_rfl) ?_
    refine fine_ask O (n := 100000) (q := 3) (by kernel_rfl) ?_
    refine fine_ask O (n := 100000) (q := 7) (by kernel_rfl) ?_
    refine fine_ask O (n := 100000) (q := 8) (by kernel_rfl) ?_
    refine fine_ask O (n := 100000) (q := 2) (by kernel_rfl) ?_
    refine fine_ask O (n := 100000) (q := 2) (by kernel_rfl) ?_
    refine fine_call O (n := 100000) (n' := 100000) (q := 0) (fun b c => by cases b <;> cases c <;> kernel_rfl) ?_
    refine fine_ask O (n := 100000) (q := 5) (by kernel_rfl) ?_
    refine fine_ask O (n := 100000) (q := 17) (by kernel_rfl) ?_
    refine fine_ask O (n := 100000) (q := 51) (by kernel_rfl) ?_
    refine fine_ask O (n := 100000) (q := 19) (by kernel_rfl) ?_
    refine fine_ask O (n := 100000) (q := 4) (by kernel_rfl) ?_
    refine fine_ask O (n := 100000) (q := 28) (by kernel_rfl) ?_
    refine fine_ask O (n := 100000) (q := 2) (by kernel_rfl) ?_
    refine fine_par O (n := 100000) (q := 28) 55 par55 (by kernel_rfl) (by kernel_rfl) (by kernel_rfl) (by kernel_rfl) (by kernel_rfl) ?_
    intro g
    refine fine_ask O (n := 100000) (q := 1) (by kernel_rfl) ?_
    refine fine_same O (n := 100000) (q := 1000) 711 646 (by kernel_rfl) (by kernel_rfl) (by kernel_rfl) ?_
    exact fine_true (by kernel_rfl) hR
  · intro P t m p D O hR
    refine fine_go O (n := 100000) (q := 4) ?_
    refine fine_ask O (n := 100000) (q := 12) (by kernel_rfl) ?_
    refine fine_ask O (n := 100000) (q := 12) (by kernel_rfl) ?_
    refine fine_ask O (n := 100000) (q := 8) (by kernel_rfl) ?_
    refine fine_contains O (n := 100000) (q := 4) 626 ⟨#[84, 85]⟩ (Nat.add (St.t₀ (V2 P t)) 9) (by kernel_rfl) (by kernel_rfl) ?_
    refine fine_ask O (n := 100000) (q := 2) (by kernel_rfl) ?_
    refine fine_ask O (n := 100000) (q := 5) (by kernel_rfl) ?_
    refine fine_ask O (n := 100000) (q := 2) (by kernel_rfl) ?_
    refine fine_ask O (n := 100000) (q := 2) (by kernel_rfl) ?_
    refine fine_call O (n := 100000) (n' := 100000) (q := 0) (fun b c => by cases b <;> cases c <;> kernel_rfl) ?_
    refine fine_ask O (n := 100000) (q := 3) (by kernel_rfl) ?_
    refine fine_ask O (n := 100000) (q := 7) (by kernel_rfl) ?_
    refine fine_ask O (n := 100000) (q := 8) (by kernel_rfl) ?_
    refine fine_ask O (n := 100000) (q := 2) (by kernel_rfl) ?_
    refine fine_ask O (n := 100000) (q := 2) (by kernel_rfl) ?_
    refine fine_call O (n := 100000) (n' := 100000) (q := 0) (fun b c => by cases b <;> cases c <;> kernel_rfl) ?_
    refine fine_ask O (n := 100000) (q := 5) (by kernel_rfl) ?_
    refine fine_ask O (n := 100000) (q := 17) (by kernel_rfl) ?_
    refine fine_ask O (n := 100000) (q := 51) (by kernel_rfl) ?_
    refine fine_ask O (n := 100000) (q := 19) (by kernel_rfl) ?_
    refine fine_ask O (n := 100000) (q := 4) (by kernel_rfl) ?_
    refine fine_ask O (n := 100000) (q := 28) (by kernel_rfl) ?_
    refine fine_ask O (n := 100000) (q := 2) (by kernel_rfl) ?_
    refine fine_par O (n := 100000) (q := 28) 55 par55 (by kernel_rfl) (by kernel_rfl) (by kernel_rfl) (by kernel_rfl) (by kernel_rfl) ?_
    intro g
    refine fine_ask O (n := 100000) (q := 1) (by kernel_rfl) ?_
    refine fine_same O (n := 100000) (q := 1000) 711 646 (by kernel_rfl) (by kernel_rfl) (by kernel_rfl) ?_
    exact fine_true (by kernel_rfl) hR
  · intro P t m p D O hR
    refine fine_go O (n := 100000) (q := 4) ?_
    refine fine_ask O (n := 100000) (q := 12) (by kernel_rfl) ?_
    refine fine_ask O (n := 100000) (q := 12) (by kernel_rfl) ?_
    refine fine_ask O (n := 100000) (q := 8) (by kernel_rfl) ?_
    refine fine_contains O (n := 100000) (q := 4) 626 ⟨#[70, 82]⟩ (Nat.add (St.t₀ (V2 P t)) 9) (by kernel_rfl) (by kernel_rfl) ?_
    refine fine_ask O (n := 100000) (q := 2) (by kernel_rfl) ?_
    refine fine_ask O (n := 100000) (q := 5) (by kernel_rfl) ?_
    refine fine_ask O (n := 100000) (q := 2) (by kernel_rfl) ?_
    refine fine_ask O (n := 100000) (q := 2) (by kernel_rfl) ?_
    refine fine_call O (n := 100000) (n' := 100000) (q := 0) (fun b c => by cases b <;> cases c <;> kernel_rfl) ?_
    refine fine_ask O (n := 100000) (q := 3) (by kernel_rfl) ?_
    refine fine_ask O (n := 100000) (q := 7) (by kernel_rfl) ?_
    refine fine_ask O (n := 100000) (q := 8) (by kernel_rfl) ?_
    refine fine_ask O (n := 100000) (q := 2) (by kernel_rfl) ?_
    refine fine_ask O (n := 100000) (q := 2) (by kernel_rfl) ?_
    refine fine_call O (n := 100000) (n' := 100000) (q := 0) (fun b c => by cases b <;> cases c <;> kernel_rfl) ?_
    refine fine_ask O (n := 100000) (q := 5) (by kernel_rfl) ?_
    refine fine_ask O (n := 100000) (q := 17) (by kernel_rfl) ?_
    refine fine_ask O (n := 100000) (q := 51) (by kernel_rfl) ?_
    refine fine_ask O (n := 100000) (q := 19) (by kernel_rfl) ?_
    refine fine_ask O (n := 100000) (q := 4) (by kernel_rfl) ?_
    refine fine_ask O (n := 100000) (q := 28) (by kernel_rfl) ?_
    refine fine_ask O (n := 100000) (q := 2) (by kernel_rfl) ?_
    refine fine_par O (n := 100000) (q := 28) 55 par55 (by kernel_rfl) (by kernel_rfl) (by kernel_rfl) (by kernel_rfl) (by kernel_rfl) ?_
    intro g
    refine fine_ask O (n := 100000) (q := 1) (by kernel_rfl) ?_
    refine fine_same O (n := 100000) (q := 1000) 711 646 (by kernel_rfl) (by kernel_rfl) (by kernel_rfl) ?_
    exact fine_true (by kernel_rfl) hR
  · intro P t m p D O hR
    refine fine_go O (n := 100000) (q := 4) ?_
    refine fine_ask O (n := 100000) (q := 12) (by kernel_rfl) ?_
    refine fine_ask O (n := 100000) (q := 12) (by kernel_rfl) ?_
    refine fine_ask O (n := 100000) (q := 8) (by kernel_rfl) ?_
    refine fine_contains O (n := 100000) (q := 4) 626 ⟨#[77, 79]⟩ (Nat.add (St.t₀ (V2 P t)) 9) (by kernel_rfl) (by kernel_rfl) ?_
    refine fine_ask O (n := 100000) (q := 2) (by kernel_rfl) ?_
    refine fine_ask O (n := 100000) (q := 5) (by kernel_rfl) ?_
    refine fine_ask O (n := 100000) (q := 2) (by kernel_rfl) ?_
    refine fine_ask O (n := 100000) (q := 2) (by kernel_rfl) ?_
    refine fine_call O (n := 100000) (n' := 100000) (q := 0) (fun b c => by cases b <;> cases c <;> kernel_rfl) ?_
    refine fine_ask O (n := 100000) (q := 3) (by kernel_rfl) ?_
    refine fine_ask O (n := 100000) (q := 7) (by kernel_rfl) ?_
    refine fine_ask O (n := 100000) (q := 8) (by kernel_rfl) ?_
    refine fine_ask O (n := 100000) (q := 2) (by kernel_rfl) ?_
    refine fine_ask O (n := 100000) (q := 2) (by kernel_rfl) ?_
    refine fine_call O (n := 100000) (n' := 100000) (q := 0) (fun b c => by cases b <;> cases c <;> kernel_rfl) ?_
    refine fine_ask O (n := 100000) (q := 5) (by kernel_rfl) ?_
    refine fine_ask O (n := 100000) (q := 17) (by kernel_rfl) ?_
    refine fine_ask O (n := 100000) (q := 51) (by kernel_rfl) ?_
    refine fine_ask O (n := 100000) (q := 19) (by kernel_rfl) ?_
    refine fine_ask O (n := 100000) (q := 4) (by kernel_rfl) ?_
    refine fine_ask O (n := 100000) (q := 28) (by kernel_rfl) ?_
    refine fine_ask O (n := 100000) (q := 2) (by kernel_rfl) ?_
    refine fine_par O (n := 100000) (q := 28) 55 par55 (by kernel_rfl) (by kernel_rfl) (by kernel_rfl) (by kernel_rfl) (by kernel_rfl) ?_
    intro g
    refine fine_ask O (n := 100000) (q := 1) (by kernel_rfl) ?_
    refine fine_same O (n := 100000) (q := 1000) 711 646 (by kernel_rfl) (by kernel_rfl) (by kernel_rfl) ?_
    exact fine_true (by kernel_rfl) hR
  · intro P t m p D O hR
    refine fine_go O (n := 100000) (q := 4) ?_
    refine fine_ask O (n := 100000) (q := 12) (by kernel_rfl) ?_
    refine fine_ask O (n := 100000) (q := 12) (by kernel_rfl) ?_
    refine fine_ask O (n := 100000) (q := 8) (by kernel_rfl) ?_
    refine fine_contains O (n := 100000) (q := 4) 626 ⟨#[87, 69]⟩ (Nat.add (St.t₀ (V2 P t)) 9) (by kernel_rfl) (by kernel_rfl) ?_
    refine fine_ask O (n := 100000) (q := 2) (by kernel_rfl) ?_
    refine fine_ask O (n := 100000) (q := 5) (by kernel_rfl) ?_
    refine fine_ask O (n := 100000) (q := 2) (by kernel_rfl) ?_
    refine fine_ask O (n := 100000) (q := 2) (by kernel_rfl) ?_
    refine fine_call O (n := 100000) (n' := 100000) (q := 0) (fun b c => by cases b <;> cases c <;> kernel_rfl) ?_
    refine fine_ask O (n := 100000) (q := 3) (by kernel_rfl) ?_
    refine fine_ask O (n := 100000) (q := 7) (by kernel_rfl) ?_
    refine fine_ask O (n := 100000) (q := 8) (by kernel_rfl) ?_
    refine fine_ask O (n := 100000) (q := 2) (by kernel_rfl) ?_
    refine fine_ask O (n := 100000) (q := 2) (by kernel_rfl) ?_
    refine fine_call O (n := 100000) (n' := 100000) (q := 0) (fun b c => by cases b <;> cases c <;> kernel_rfl) ?_
    refine fine_ask O (n := 100000) (q := 5) (by kernel_rfl) ?_
    refine fine_ask O (n := 100000) (q := 17) (by kernel_rfl) ?_
    refine fine_ask O (n := 100000) (q := 51) (by kernel_rfl) ?_
    refine fine_ask O (n := 100000) (q := 19) (by kernel_rfl) ?_
    refine fine_ask O (n := 100000) (q := 4) (by kernel_rfl) ?_
    refine fine_ask O (n := 100000) (q := 28) (by kernel_rfl) ?_
    refine fine_ask O (n := 100000) (q := 2) (by kernel_rfl) ?_
    refine fine_par O (n := 100000) (q := 28) 55 par55 (by kernel_rfl) (by kernel_rfl) (by kernel_rfl) (by kernel_rfl) (by kernel_rfl) ?_
    intro g
    refine fine_ask O (n := 100000) (q := 1) (by kernel_rfl) ?_
    refine fine_same O (n := 100000) (q := 1000) 711 646 (by kernel_rfl) (by kernel_rfl) (by kernel_rfl) ?_
    exact fine_true (by kernel_rfl) hR
end Mine

namespace Mine
theorem g13 : RunOk 0 ⟨#[49, 83, 65]⟩ ∧
  RunOk 0 ⟨#[49, 83, 85]⟩ ∧
  RunOk 0 ⟨#[49, 84, 72]⟩ ∧
  RunOk 0 ⟨#[49, 84, 117]⟩ ∧
  RunOk 0 ⟨#[49, 102, 114]⟩ ∧
  RunOk 0 ⟨#[49, 109, 111]⟩ ∧
  RunOk 0 ⟨#[49, 119, 69]⟩ := by
  refine ⟨?_, ?_, ?_, ?_, ?_, ?_, ?_⟩
  · intro P t m p D O hR
    refine fine_go O (n := 100000) (q := 4) ?_
    refine fine_ask O (n := 100000) (q := 12) (by kernel_rfl) ?_
    refine fine_ask O (n := 100000) (q := 12) (by kernel_rfl) ?_
    refine fine_ask O (n := 100000) (q := 4) (by kernel_rfl) ?_
    refine fine_ask O (n := 100000) (q := 6) (by kernel_rfl) ?_
    refine fine_contains O (n := 100000) (q := 4) 626 ⟨#[83, 65]⟩ (Nat.add (St.t₀ (V2 P t)) 9) (by kernel_rfl) (by kernel_rfl) ?_
    refine fine_ask O (n := 100000) (q := 2) (by kernel_rfl) ?_
    refine fine_ask O (n := 100000) (q := 5) (by kernel_rfl) ?_
    refine fine_ask O (n := 100000) (q := 2) (by kernel_rfl) ?_
    refine fine_ask O (n := 100000) (q := 2) (by kernel_rfl) ?_
    refine fine_call O (n := 100000) (n' := 100000) (q := 0) (fun b c => by cases b <;> cases c <;> kernel_rfl) ?_
    refine fine_ask O (n := 100000) (q := 3) (by kernel_rfl) ?_
    refine fine_ask O (n := 100000) (q := 7) (by kernel_rfl) ?_
    refine fine_ask O (n := 100000) (q := 4) (by kernel_rfl) ?_
    refine fine_ask O (n := 100000) (q := 6) (by kernel_rfl) ?_
    refine fine_ask O (n := 100000) (q := 2) (by kernel_rfl) ?_
    refine fine_ask O (n := 100000) (q := 2) (by kernel_rfl) ?_
    refine fine_call O (n := 100000) (n' := 100000) (q := 0) (fun b c => by cases b <;> cases c <;> kernel_rfl) ?_
    refine fine_ask O (n := 100000) (q := 5) (by kernel_rfl) ?_
    refine fine_ask O (n := 100000) (q := 17) (by kernel_rfl) ?_
    refine fine_ask O (n := 100000) (q := 51) (by kernel_rfl) ?_
    refine fine_ask O (n := 100000) (q := 19) (by kernel_rfl) ?_
    refine fine_ask O (n := 100000) (q := 4) (by kernel_rfl) ?_
    refine fine_ask O (n := 100000) (q := 28) (by kernel_rfl) ?_
    refine fine_ask O (n := 100000) (q := 2) (by kernel_rfl) ?_
    refine fine_par O (n := 100000) (q := 28) 55 par55 (by kernel_rfl) (by kernel_rfl) (by kernel_rfl) (by kernel_rfl) (by kernel_rfl) ?_
    intro g
    refine fine_ask O (n := 100000) (q := 1) (by kernel_rfl) ?_
    refine fine_same O (n := 100000) (q := 1000) 711 646 (by kernel_rfl) (by kernel_rfl) (by kernel_rfl) ?_
    exact fine_true (by kernel_rfl) hR
  · intro P t m p D O hR
    refine fine_go O (n := 100000) (q := 4) ?_
    refine fine_ask O (n := 100000) (q := 12) (by kernel_rfl) ?_
    refine fine_ask O (n := 100000) (q := 12) (by kernel_rfl) ?_
    refine fine_ask O (n := 100000) (q := 4) (by kernel_rfl) ?_
    refine fine_ask O (n := 100000) (q := 6) (by kernel_rfl) ?_
    refine fine_contains O (n := 100000) (q := 4) 626 ⟨#[83, 85]⟩ (Nat.add (St.t₀ (V2 P t)) 9) (by kernel_rfl) (by kernel_rfl) ?_
    refine fine_ask O (n := 100000) (q := 2) (by kernel_rfl) ?_
    refine fine_ask O (n := 100000) (q := 5) (by kernel_rfl) ?_
    refine fine_ask O (n := 100000) (q := 2) (by kernel_rfl) ?_
    refine fine_ask O (n := 100000) (q := 2) (by kernel_rfl) ?_
    refine fine_call O (n := 100000) (n' := 100000) (q := 0) (fun b c => by cases b <;> cases c <;> kernel_rfl) ?_
    refine fine_ask O (n := 100000) (q := 3) (by kernel_rfl) ?_
    refine fine_ask O (n := 100000) (q := 7) (by kernel_rfl) ?_
    refine fine_ask O (n := 100000) (q := 4) (by kernel_rfl) ?_
    refine fine_ask O (n := 100000) (q := 6) (by kernel_rfl) ?_
    refine fine_ask O (n := 100000) (q := 2) (by kernel_rfl) ?_
    refine fine_ask O (n := 100000) (q := 2) (by kernel_rfl) ?_
    refine fine_call O (n := 100000) (n' := 100000) (q := 0) (fun b c => by cases b <;> cases c <;> kernel_rfl) ?_
    refine fine_ask O (n := 100000) (q := 5) (by kernel_rfl) ?_
    refine fine_ask O (n := 100000) (q := 17) (by kernel_rfl) ?_
    refine fine_ask O (n := 100000) (q := 51) (by kernel_rfl) ?_
    refine fine_ask O (n := 100000) (q := 19) (by kernel_rfl) ?_
    refine fine_ask O (n := 100000) (q := 4) (by kernel_rfl) ?_
    refine fine_ask O (n := 100000) (q := 28) (by kernel_rfl) ?_
    refine fine_ask O (n := 100000) (q := 2) (by kernel_rfl) ?_
    refine fine_par O (n := 100000) (q := 28) 55 par55 (by kernel_rfl) (by kernel_rfl) (by kernel_rfl) (by kernel_rfl) (by kernel_rfl) ?_
    intro g
    refine fine_ask O (n := 100000) (q := 1) (by kernel_rfl) ?_
    refine fine_same O (n := 100000) (q := 1000) 711 646 (by kernel_rfl) (by kernel_rfl) (by kernel_rfl) ?_
    exact fine_true (by kernel_rfl) hR
  · intro P t m p D O hR
    refine fine_go O (n := 100000) (q := 4) ?_
    refine fine_ask O (n := 100000) (q := 12) (by kernel_rfl) ?_
    refine fine_ask O (n := 100000) (q := 12) (by kernel_rfl) ?_
    refine fine_ask O (n := 100000) (q := 4) (by kernel_rfl) ?_
    refine fine_ask O (n := 100000) (q := 6) (by kernel_rfl) ?_
    refine fine_contains O (n := 100000) (q := 4) 626 ⟨#[84, 72]⟩ (Nat.add (St.t₀ (V2 P t)) 9) (by kernel_rfl) (by kernel_rfl) ?_
    refine fine_ask O (n := 100000) (q := 2) (by kernel_rfl) ?_
    refine fine_ask O (n := 100000) (q := 5) (by kernel_rfl) ?_
    refine fine_ask O (n := 100000) (q := 2) (by kernel_rfl) ?_
    refine fine_ask O (n := 100000) (q := 2) (by kernel_rfl) ?_
    refine fine_call O (n := 100000) (n' := 100000) (q := 0) (fun b c => by cases b <;> cases c <;> kernel_rfl) ?_
    refine fine_ask O (n := 100000) (q := 3) (by kernel_rfl) ?_
    refine fine_ask O (n := 100000) (q := 7) (by kernel_rfl) ?_
    refine fine_ask O (n := 100000) (q := 4) (by kernel_rfl) ?_
    refine fine_ask O (n := 100000) (q := 6) (by kernel_rfl) ?_
    refine fine_ask O (n := 100000) (q := 2) (by kernel_rfl) ?_
    refine fine_ask O (n := 100000) (q := 2) (by kernel_rfl) ?_
    refine fine_call O (n := 100000) (n' := 100000) (q := 0) (fun b c => by cases b <;> cases c <;> kernel_rfl) ?_
    refine fine_ask O (n := 100000) (q := 5) (by kernel_rfl) ?_
    refine fine_ask O (n := 100000) (q := 17) (by kernel_rfl) ?_
    refine fine_ask O (n := 100000) (q := 51) (by kernel_rfl) ?_
    refine fine_ask O (n := 100000) (q := 19) (by kernel_rfl) ?_
    refine fine_ask O (n := 100000) (q := 4) (by kernel_rfl) ?_
    refine fine_ask O (n := 100000) (q := 28) (by kernel_rfl) ?_
    refine fine_ask O (n := 100000) (q := 2) (by kernel_rfl) ?_
    refine fine_par O (n := 100000) (q := 28) 55 par55 (by kernel_rfl) (by kernel_rfl) (by kernel_rfl) (by kernel_rfl) (by kernel_rfl) ?_
    intro g
    refine fine_ask O (n := 100000) (q := 1) (by kernel_rfl) ?_
    refine fine_same O (n := 100000) (q := 1000) 711 646 (by kernel_rfl) (by kernel_rfl) (by kernel_rfl) ?_
    exact fine_true (by kernel_rfl) hR
  · intro P t m p D O hR
    refine fine_go O (n := 100000) (q := 4) ?_
    refine fine_ask O (n := 100000) (q := 12) (by kernel_rfl) ?_
    refine fine_ask O (n := 100000) (q := 12) (by kernel_rfl) ?_
    refine fine_ask O (n := 100000) (q := 4) (by kernel_rfl) ?_
    refine fine_ask O (n := 100000) (q := 6) (by kernel_rfl) ?_
    refine fine_contains O (n := 100000) (q := 4) 626 ⟨#[84, 85]⟩ (Nat.add (St.t₀ (V2 P t)) 9) (by kernel_rfl) (by kernel_rfl) ?_
    refine fine_ask O (n := 100000) (q := 2) (by kernel_rfl) ?_
    refine fine_ask O (n := 100000) (q := 5) (by kernel_rfl) ?_
    refine fine_ask O (n := 100000) (q := 2) (by kernel_rfl) ?_
    refine fine_ask O (n := 100000) (q := 2) (by kernel_rfl) ?_
    refine fine_call O (n := 100000) (n' := 100000) (q := 0) (fun b c => by cases b <;> cases c <;> kernel_rfl) ?_
    refine fine_ask O (n := 100000) (q := 3) (by kernel_rfl) ?_
    refine fine_ask O (n := 100000) (q := 7) (by kernel_rfl) ?_
    refine fine_ask O (n := 100000) (q := 4) (by kernel_rfl) ?_
    refine fine_ask O (n := 100000) (q := 6) (by kernel_rfl) ?_
    refine fine_ask O (n := 100000) (q := 2) (by kernel_rfl) ?_
    refine fine_ask O (n := 100000) (q := 2) (by kernel_rfl) ?_
    refine fine_call O (n := 100000) (n' := 100000) (q := 0) (fun b c => by cases b <;> cases c <;> kernel_rfl) ?_
    refine fine_ask O (n := 100000) (q := 5) (by kernel_rfl) ?_
    refine fine_ask O (n := 100000) (q := 17) (by kernel_rfl) ?_
    refine fine_ask O (n := 100000) (q := 51) (by kernel_rfl) ?_
    refine fine_ask O (n := 100000) (q := 19) (by kernel_rfl) ?_
    refine fine_ask O (n := 100000) (q := 4) (by kernel_rfl) ?_
    refine fine_ask O (n := 100000) (q := 28) (by kernel_rfl) ?_
    refine fine_ask O (n := 100000) (q := 2) (by kernel_rfl) ?_
    refine fine_par O (n := 100000) (q := 28) 55 par55 (by kernel_rfl) (by kernel_rfl) (by kernel_rfl) (by kernel_rfl) (by kernel_rfl) ?_
    intro g
    refine fine_ask O (n := 100000) (q := 1) (by kernel_rfl) ?_
    refine fine_same O (n := 100000) (q := 1000) 711 646 (by kernel_rfl) (by kernel_rfl) (by kernel_rfl) ?_
    exact fine_true (by kernel_rfl) hR
  · intro P t m p D O hR
    refine fine_go O (n := 100000) (q := 4) ?_
    refine fine_ask O (n := 100000) (q := 12) (by kernel_rfl) ?_
    refine fine_ask O (n := 100000) (q := 12) (by kernel_rfl) ?_
    refine fine_ask O (n := 100000) (q := 4) (by kernel_rfl) ?_
    refine fine_ask O (n := 100000) (q := 6) (by kernel_rfl) ?_
    refine fine_contains O (n := 100000) (q := 4) 626 ⟨#[70, 82]⟩ (Nat.add (St.t₀ (V2 P t)) 9) (by kernel_rfl) (by kernel_rfl) ?_
    refine fine_ask O (n := 100000) (q := 2) (by kernel_rfl) ?_
    refine fine_ask O (n := 100000) (q := 5) (by kernel_rfl) ?_
    refine fine_ask O (n := 100000) (q := 2) (by kernel_rfl) ?_
    refine fine_ask O (n := 100000) (q := 2) (by kernel_rfl) ?_
    refine fine_call O (n := 100000) (n' := 100000) (q := 0) (fun b c => by cases b <;> cases c <;> kernel_rfl) ?_
    refine fine_ask O (n := 100000) (q := 3) (by kernel_rfl) ?_
    refine fine_ask O (n := 100000) (q := 7) (by kernel_rfl) ?_
    refine fine_ask O (n := 100000) (q := 4) (by kernel_rfl) ?_
    refine fine_ask O (n := 100000) (q := 6) (by kernel_rfl) ?_
    refine fine_ask O (n := 100000) (q := 2) (by kernel_rfl) ?_
    refine fine_ask O (n := 100000) (q := 2) (by kernel_rfl) ?_
    refine fine_call O (n := 100000) (n' := 100000) (q := 0) (fun b c => by cases b <;> cases c <;> kernel_rfl) ?_
    refine fine_ask O (n := 100000) (q := 5) (by kernel_rfl) ?_
    refine fine_ask O (n := 100000) (q := 17) (by kernel_rfl) ?_
    refine fine_ask O (n := 100000) (q := 51) (by kernel_rfl) ?_
    refine fine_ask O (n := 100000) (q := 19) (by kernel_rfl) ?_
    refine fine_ask O (n := 100000) (q := 4) (by kernel_rfl) ?_
    refine fine_ask O (n := 100000) (q := 28) (by kernel_rfl) ?_
    refine fine_ask O (n := 100000) (q := 2) (by kernel_rfl) ?_
    refine fine_par O (n := 100000) (q := 28) 55 par55 (by kernel_rfl) (by kernel_rfl) (by kernel_rfl) (by kernel_rfl) (by kernel_rfl) ?_
    intro g
    refine fine_ask O (n := 100000) (q := 1) (by kernel_rfl) ?_
    refine fine_same O (n := 100000) (q := 1000) 711 646 (by kernel_rfl) (by kernel_rfl) (by kernel_rfl) ?_
    exact fine_true (by kernel_rfl) hR
  · intro P t m p D O hR
    refine fine_go O (n := 100000) (q := 4) ?_
    refine fine_ask O (n := 100000) (q := 12) (by kernel_rfl) ?_
    refine fine_ask O (n := 100000) (q := 12) (by kernel_rfl) ?_
    refine fine_ask O (n := 100000) (q := 4) (by kernel_rfl) ?_
    refine fine_ask O (n := 100000) (q := 6) (by kernel_rfl) ?_
    refine fine_contains O (n := 100000) (q := 4) 626 ⟨#[77, 79]⟩ (Nat.add (St.t₀ (V2 P t)) 9) (by kernel_rfl) (by kernel_rfl) ?_
    refine fine_ask O (n := 100000) (q := 2) (by kernel_rfl) ?_
    refine fine_ask O (n := 100000) (q := 5) (by kernel_rfl) ?_
    refine fine_ask O (n := 100000) (q := 2) (by kernel_rfl) ?_
    refine fine_ask O (n := 100000) (q := 2) (by kernel_rfl) ?_
    refine fine_call O (n := 100000) (n' := 100000) (q := 0) (fun b c => by cases b <;> cases c <;> kernel_rfl) ?_
    refine fine_ask O (n := 100000) (q := 3) (by kernel_rfl) ?_
    refine fine_ask O (n := 100000) (q := 7) (by kernel_rfl) ?_
    refine fine_ask O (n := 100000) (q := 4) (by kernel_rfl) ?_
    refine fine_ask O (n := 100000) (q := 6) (by kernel_rfl) ?_
    refine fine_ask O (n := 100000) (q := 2) (by kernel_rfl) ?_
    refine fine_ask O (n := 100000) (q := 2) (by kernel_rfl) ?_
    refine fine_call O (n := 100000) (n' := 100000) (q := 0) (fun b c => by cases b <;> cases c <;> kernel_rfl) ?_
    refine fine_ask O (n := 100000) (q := 5) (by kernel_rfl) ?_
    refine fine_ask O (n := 100000) (q := 17) (by kernel_rfl) ?_
    refine fine_ask O (n := 100000) (q := 51) (by kernel_rfl) ?_
    refine fine_ask O (n := 100000) (q := 19) (by kernel_rfl) ?_
    refine fine_ask O (n := 100000) (q := 4) (by kernel_rfl) ?_
    refine fine_ask O (n := 100000) (q := 28) (by kernel_rfl) ?_
    refine fine_ask O (n := 100000) (q := 2) (by kernel_rfl) ?_
    refine fine_par O (n := 100000) (q := 28) 55 par55 (by kernel_rfl) (by kernel_rfl) (by kernel_rfl) (by kernel_rfl) (by kernel_rfl) ?_
    intro g
    refine fine_ask O (n := 100000) (q := 1) (by kernel_rfl) ?_
    refine fine_same O (n := 100000) (q := 1000) 711 646 (by kernel_rfl) (by kernel_rfl) (by kernel_rfl) ?_
    exact fine_true (by kernel_rfl) hR
  · intro P t m p D O hR
    refine fine_go O (n := 100000) (q := 4) ?_
    refine fine_ask O (n := 100000) (q := 12) (by kernel_rfl) ?_
    refine fine_ask O (n := 100000) (q := 12) (by kernel_rfl) ?_
    refine fine_ask O (n := 100000) (q := 4) (by kernel_rfl) ?_
    refine fine_ask O (n := 100000) (q := 6) (by kernel_rfl) ?_
    refine fine_contains O (n := 100000) (q := 4) 626 ⟨#[87, 69]⟩ (Nat.add (St.t₀ (V2 P t)) 9) (by kernel_rfl) (by kernel_rfl) ?_
    refine fine_ask O (n := 100000) (q := 2) (by kernel_rfl) ?_
    refine fine_ask O (n := 100000) (q := 5) (by kernel_rfl) ?_
    refine fine_ask O (n := 100000) (q := 2) (by kernel_rfl) ?_
    refine fine_ask O (n := 100000) (q := 2) (by kernel_rfl) ?_
    refine fine_call O (n := 100000) (n' := 100000) (q := 0) (fun b c => by cases b <;> cases c <;> kernel_rfl) ?_
    refine fine_ask O (n := 100000) (q := 3) (by kernel_rfl) ?_
    refine fine_ask O (n := 100000) (q := 7) (by kernel_rfl) ?_
    refine fine_ask O (n := 100000) (q := 4) (by kernel_rfl) ?_
    refine fine_ask O (n := 100000) (q := 6) (by kernel_rfl) ?_
    refine fine_ask O (n := 100000) (q := 2) (by kernel_rfl) ?_
    refine fine_ask O (n := 100000) (q := 2) (by kernel_rfl) ?_
    refine fine_call O (n := 100000) (n' := 100000) (q := 0) (fun b c => by cases b <;> cases c <;> kernel_rfl) ?_
    refine fine_ask O (n := 100000) (q := 5) (by kernel_rfl) ?_
    refine fine_ask O (n := 100000) (q := 17) (by kernel_rfl) ?_
    refine fine_ask O (n := 100000) (q := 51) (by kernel_rfl) ?_
    refine fine_ask O (n := 100000) (q := 19) (by kernel_rfl) ?_
    refine fine_ask O (n := 100000) (q := 4) (by kernel_rfl) ?_
    refine fine_ask O (n := 100000) (q := 28) (by kernel_rfl) ?_
    refine fine_ask O (n := 100000) (q := 2) (by kernel_rfl) ?_
    refine fine_par O (n := 100000) (q := 28) 55 par55 (by kernel_rfl) (by kernel_rfl) (by kernel_rfl) (by kernel_rfl) (by kernel_rfl) ?_
    intro g
    refine fine_ask O (n := 100000) (q := 1) (by kernel_rfl) ?_
    refine fine_same O (n := 100000) (q := 1000) 711 646 (by kernel_rfl) (by kernel_rfl) (by kernel_rfl) ?_
    exact fine_true (by kernel_rfl) hR
end Mine

namespace Mine
theorem g14 : RunOk 0 ⟨#[57, 83, 65]⟩ ∧
  RunOk 0 ⟨#[57, 83, 85]⟩ ∧
  RunOk 0 ⟨#[57, 84, 72]⟩ ∧
  RunOk 0 ⟨#[57, 84, 117]⟩ ∧
  RunOk 0 ⟨#[57, 102, 114]⟩ ∧
  RunOk 0 ⟨#[57, 109, 111]⟩ ∧
  RunOk 0 ⟨#[57, 119, 69]⟩ := by
  refine ⟨?_, ?_, ?_, ?_, ?_, ?_, ?_⟩
  · intro P t m p D O hR
    refine fine_go O (n := 100000) (q := 4) ?_
    refine fine_ask O (n := 100000) (q := 12) (by kernel_rfl) ?_
    refine fine_ask O (n := 100000) (q := 12) (by kernel_rfl) ?_
    refine fine_ask O (n := 100000) (q := 4) (by kernel_rfl) ?_
    refine fine_ask O (n := 100000) (q := 6) (by kernel_rfl) ?_
    refine fine_contains O (n := 100000) (q := 4) 626 ⟨#[83, 65]⟩ (Nat.add (St.t₀ (V2 P t)) 9) (by kernel_rfl) (by kernel_rfl) ?_
    refine fine_ask O (n := 100000) (q := 2) (by kernel_rfl) ?_
    refine fine_ask O (n := 100000) (q := 5) (by kernel_rfl) ?_
    refine fine_ask O (n := 100000) (q := 2) (by kernel_rfl) ?_
    refine fine_ask O (n := 100000) (q := 2) (by kernel_rfl) ?_
    refine fine_call O (n := 100000) (n' := 100000) (q := 0) (fun b c => by cases b <;> cases c <;> kernel_rfl) ?_
    refine fine_ask O (n := 100000) (q := 3) (by kernel_rfl) ?_
    refine fine_ask O (n := 100000) (q := 7) (by kernel_rfl) ?_
    refine fine_ask O (n := 100000) (q := 4) (by kernel_rfl) ?_
    refine fine_ask O (n := 100000) (q := 6) (by kernel_rfl) ?_
    refine fine_ask O (n := 100000) (q := 2) (by kernel_rfl) ?_
    refine fine_ask O (n := 100000) (q := 2) (by kernel_rfl) ?_
    refine fine_call O (n := 100000) (n' := 100000) (q := 0) (fun b c => by cases b <;> cases c <;> kernel_rfl) ?_
    refine fine_ask O (n := 100000) (q := 5) (by kernel_rfl) ?_
    refine fine_ask O (n := 100000) (q := 17) (by kernel_rfl) ?_
    refine fine_ask O (n := 100000) (q := 51) (by kernel_rfl) ?_
    refine fine_ask O (n := 100000) (q := 19) (by kernel_rfl) ?_
    refine fine_ask O (n := 100000) (q := 4) (by kernel_rfl) ?_
    refine fine_ask O (n := 100000) (q := 28) (by kernel_rfl) ?_
    refine fine_ask O (n := 100000) (q := 2) (by kernel_rfl) ?_
    refine fine_par O (n := 100000) (q := 28) 55 par55 (by kernel_rfl) (by kernel_rfl) (by kernel_rfl) (by kernel_rfl) (by kernel_rfl) ?_
    intro g
    refine fine_ask O (n := 100000) (q := 1) (by kernel_rfl) ?_
    refine fine_same O (n := 100000) (q := 1000) 711 646 (by kernel_rfl) (by kernel_rfl) (by kernel_rfl) ?_
    exact fine_true (by kernel_rfl) hR
  · intro P t m p D O hR
    refine fine_go O (n := 100000) (q := 4) ?_
    refine fine_ask O (n := 100000) (q := 12) (by kernel_rfl) ?_
    refine fine_ask O (n := 100000) (q := 12) (by kernel_rfl) ?_
    refine fine_ask O (n := 100000) (q := 4) (by kernel_rfl) ?_
    refine fine_ask O (n := 100000) (q := 6) (by kernel_rfl) ?_
    refine fine_contains O (n := 100000) (q := 4) 626 ⟨#[83, 85]⟩ (Nat.add (St.t₀ (V2 P t)) 9) (by kernel_rfl) (by kernel_rfl) ?_
    refine fine_ask O (n := 100000) (q := 2) (by kernel_rfl) ?_
    refine fine_ask O (n := 100000) (q := 5) (by kernel_rfl) ?_
    refine fine_ask O (n := 100000) (q := 2) (by kernel_rfl) ?_
    refine fine_ask O (n := 100000) (q := 2) (by kernel_rfl) ?_
    refine fine_call O (n := 100000) (n' := 100000) (q := 0) (fun b c => by cases b <;> cases c <;> kernel_rfl) ?_
    refine fine_ask O (n := 100000) (q := 3) (by kernel_rfl) ?_
    refine fine_ask O (n := 100000) (q := 7) (by kernel_rfl) ?_
    refine fine_ask O (n := 100000) (q := 4) (by kernel_rfl) ?_
    refine fine_ask O (n := 100000) (q := 6) (by kernel_rfl) ?_
    refine fine_ask O (n := 100000) (q := 2) (by kernel_rfl) ?_
    refine fine_ask O (n := 100000) (q := 2) (by kernel_rfl) ?_
    refine fine_call O (n := 100000) (n' := 100000) (q := 0) (fun b c => by cases b <;> cases c <;> kernel_rfl) ?_
    refine fine_ask O (n := 100000) (q := 5) (by kernel_rfl) ?_
    refine fine_ask O (n := 100000) (q := 17) (by kernel_rfl) ?_
    refine fine_ask O (n := 100000) (q := 51) (by kernel_rfl) ?_
    refine fine_ask O (n := 100000) (q := 19) (by kernel_rfl) ?_
    refine fine_ask O (n := 100000) (q := 4) (by kernel_rfl) ?_
    refine fine_ask O (n := 100000) (q := 28) (by kernel_rfl) ?_
    refine fine_ask O (n := 100000) (q := 2) (by kernel_rfl) ?_
    refine fine_par O (n := 100000) (q := 28) 55 par55 (by kernel_rfl) (by kernel_rfl) (by kernel_rfl) (by kernel_rfl) (by kernel_rfl) ?_
    intro g
    refine fine_ask O (n := 100000) (q := 1) (by kernel_rfl) ?_
    refine fine_same O (n := 100000) (q := 1000) 711 646 (by kernel_rfl) (by kernel_rfl) (by kernel_rfl) ?_
    exact fine_true (by kernel_rfl) hR
  · intro P t m p D O hR
    refine fine_go O (n := 100000) (q := 4) ?_
    refine fine_ask O (n := 100000) (q := 12) (by kernel_rfl) ?_
    refine fine_ask O (n := 100000) (q := 12) (by kernel_rfl) ?_
    refine fine_ask O (n := 100000) (q := 4) (by kernel_rfl) ?_
    refine fine_ask O (n := 100000) (q := 6) (by kernel_rfl) ?_
    refine fine_contains O (n := 100000) (q := 4) 626 ⟨#[84, 72]⟩ (Nat.add (St.t₀ (V2 P t)) 9) (by kernel_rfl) (by kernel_rfl) ?_
    refine fine_ask O (n := 100000) (q := 2) (by kernel_rfl) ?_
    refine fine_ask O (n := 100000) (q := 5) (by kernel_rfl) ?_
    refine fine_ask O (n := 100000) (q := 2) (by kernel_rfl) ?_
    refine fine_ask O (n := 100000) (q := 2) (by kernel_rfl) ?_
    refine fine_call O (n := 100000) (n' := 100000) (q := 0) (fun b c => by cases b <;> cases c <;> kernel_rfl) ?_
    refine fine_ask O (n := 100000) (q := 3) (by kernel_rfl) ?_
    refine fine_ask O (n := 100000) (q := 7) (by kernel_rfl) ?_
    refine fine_ask O (n := 100000) (q := 4) (by kernel_rfl) ?_
    refine fine_ask O (n := 100000) (q := 6) (by kernel_rfl) ?_
    refine fine_ask O (n := 100000) (q := 2) (by kernel_rfl) ?_
    refine fine_ask O (n := 100000) (q := 2) (by kernel_rfl) ?_
    refine fine_call O (n := 100000) (n' := 100000) (q := 0) (fun b c => by cases b <;> cases c <;> kernel_rfl) ?_
    refine fine_ask O (n := 100000) (q := 5) (by kernel_rfl) ?_
    refine fine_ask O (n := 100000) (q := 17) (by kernel_rfl) ?_
    refine fine_ask O (n := 100000) (q := 51) (by kernel_rfl) ?_
    refine fine_ask O (n := 100000) (q := 19) (by kernel_rfl) ?_
    refine fine_ask O (n := 100000) (q := 4) (by kernel_rfl) ?_
    refine fine_ask O (n := 100000) (q := 28) (by kernel_rfl) ?_
    refine fine_ask O (n := 100000) (q := 2) (by kernel_rfl) ?_
    refine fine_par O (n := 100000) (q := 28) 55 par55 (by kernel_rfl) (by kernel_rfl) (by kernel_rfl) (by kernel_rfl) (by kernel_rfl) ?_
    intro g
    refine fine_ask O (n := 100000) (q := 1) (by kernel_rfl) ?_
    refine fine_same O (n := 100000) (q := 1000) 711 646 (by kernel_rfl) (by kernel_rfl) (by kernel_rfl) ?_
    exact fine_true (by kernel_rfl) hR
  · intro P t m p D O hR
    refine fine_go O (n := 100000) (q := 4) ?_
    refine fine_ask O (n := 100000) (q := 12) (by kernel_rfl) ?_
    refine fine_ask O (n := 100000) (q := 12) (by kernel_rfl) ?_
    refine fine_ask O (n := 100000) (q := 4) (by kernel_rfl) ?_
    refine fine_ask O (n := 100000) (q := 6) (by kernel_rfl) ?_
    refine fine_contains O (n := 100000) (q := 4) 626 ⟨#[84, 85]⟩ (Nat.add (St.t₀ (V2 P t)) 9) (by kernel_rfl) (by kernel_rfl) ?_
    refine fine_ask O (n := 100000) (q := 2) (by kernel_rfl) ?_
    refine fine_ask O (n := 100000) (q := 5) (by kernel_rfl) ?_
    refine fine_ask O (n := 100000) (q := 2) (by kernel_rfl) ?_
    refine fine_ask O (n := 100000) (q := 2) (by kernel_rfl) ?_
    refine fine_call O (n := 100000) (n' := 100000) (q := 0) (fun b c => by cases b <;> cases c <;> kernel_rfl) ?_
    refine fine_ask O (n := 100000) (q := 3) (by kernel_rfl) ?_
    refine fine_ask O (n := 100000) (q := 7) (by kernel_rfl) ?_
    refine fine_ask O (n := 100000) (q := 4) (by kernel_rfl) ?_
    refine fine_ask O (n := 100000) (q := 6) (by kernel_rfl) ?_
    refine fine_ask O (n := 100000) (q := 2) (by kernel_rfl) ?_
    refine fine_ask O (n := 100000) (q := 2) (by kernel_rfl) ?_
    refine fine_call O (n := 100000) (n' := 100000) (q := 0) (fun b c => by cases b <;> cases c <;> kernel_rfl) ?_
    refine fine_ask O (n := 100000) (q := 5) (by kernel_rfl) ?_
    refine fine_ask O (n := 100000) (q := 17) (by kernel_rfl) ?_
    refine fine_ask O (n := 100000) (q := 51) (by kernel_rfl) ?_
    refine fine_ask O (n := 100000) (q := 19) (by kernel_rfl) ?_
    refine fine_ask O (n := 100000) (q := 4) (by kernel_rfl) ?_
    refine fine_ask O (n := 100000) (q := 28) (by kernel_rfl) ?_
    refine fine_ask O (n := 100000) (q := 2) (by kernel_rfl) ?_
    refine fine_par O (n := 100000) (q := 28) 55 par55 (by kernel_rfl) (by kernel_rfl) (by kernel_rfl) (by kernel_rfl) (by kernel_rfl) ?_
    intro g
    refine fine_ask O (n := 100000) (q := 1) (by kernel_rfl) ?_
    refine fine_same O (n := 100000) (q := 1000) 711 646 (by kernel_rfl) (by kernel_rfl) (by kernel_rfl) ?_
    exact fine_true (by kernel_rfl) hR
  · intro P t m p D O hR
    refine fine_go O (n := 100000) (q := 4) ?_
    refine fine_ask O (n := 100000) (q := 12) (by kernel_rfl) ?_
    refine fine_ask O (n := 100000) (q := 12) (by kernel_rfl) ?_
    refine fine_ask O (n := 100000) (q := 4) (by kernel_rfl) ?_
    refine fine_ask O (n := 100000) (q := 6) (by kernel_rfl) ?_
    refine fine_contains O (n := 100000) (q := 4) 626 ⟨#[70, 82]⟩ (Nat.add (St.t₀ (V2 P t)) 9) (by kernel_rfl) (by kernel_rfl) ?_
    refine fine_ask O (n := 100000) (q := 2) (by kernel_rfl) ?_
    refine fine_ask O (n := 100000) (q := 5) (by kernel_rfl) ?_
    refine fine_ask O (n := 100000) (q := 2) (by kernel_rfl) ?_
    refine fine_ask O (n := 100000) (q := 2) (by kernel_rfl) ?_
    refine fine_call O (n := 100000) (n' := 100000) (q := 0) (fun b c => by cases b <;> cases c <;> kernel_rfl) ?_
    refine fine_ask O (n := 100000) (q := 3) (by kernel_rfl) ?_
    refine fine_ask O (n := 100000) (q := 7) (by kernel_rfl) ?_
    refine fine_ask O (n := 100000) (q := 4) (by kernel_rfl) ?_
    refine fine_ask O (n := 100000) (q := 6) (by kernel_rfl) ?_
    refine fine_ask O (n := 100000) (q := 2) (by kernel_rfl) ?_
    refine fine_ask O (n := 100000) (q := 2) (by kernel_rfl) ?_
    refine fine_call O (n := 100000) (n' := 100000) (q := 0) (fun b c => by cases b <;> cases c <;> kernel_rfl) ?_
    refine fine_ask O (n := 100000) (q := 5) (by kernel_rfl) ?_
    refine fine_ask O (n := 100000) (q := 17) (by kernel_rfl) ?_
    refine fine_ask O (n := 100000) (q := 51) (by kernel_rfl) ?_
    refine fine_ask O (n := 100000) (q := 19) (by kernel_rfl) ?_
    refine fine_ask O (n := 100000) (q := 4) (by kernel_rfl) ?_
    refine fine_ask O (n := 100000) (q := 28) (by kernel_rfl) ?_
    refine fine_ask O (n := 100000) (q := 2) (by kernel_rfl) ?_
    refine fine_par O (n := 100000) (q := 28) 55 par55 (by kernel_rfl) (by kernel_rfl) (by kernel_rfl) (by kernel_rfl) (by kernel_rfl) ?_
    intro g
    refine fine_ask O (n := 100000) (q := 1) (by kernel_rfl) ?_
    refine fine_same O (n := 100000) (q := 1000) 711 646 (by kernel_rfl) (by kernel_rfl) (by kernel_rfl) ?_
    exact fine_true (by kernel_rfl) hR
  · intro P t m p D O hR
    refine fine_go O (n := 100000) (q := 4) ?_
    refine fine_ask O (n := 100000) (q := 12) (by kernel_rfl) ?_
    refine fine_ask O (n := 100000) (q := 12) (by kernel_rfl) ?_
    refine fine_ask O (n := 100000) (q := 4) (by kernel_rfl) ?_
    refine fine_ask O (n := 100000) (q := 6) (by kernel_rfl) ?_
    refine fine_contains O (n := 100000) (q := 4) 626 ⟨#[77, 79]⟩ (Nat.add (St.t₀ (V2 P t)) 9) (by kernel_rfl) (by kernel_rfl) ?_
    refine fine_ask O (n := 100000) (q := 2) (by kernel_rfl) ?_
    refine fine_ask O (n := 100000) (q := 5) (by kernel_rfl) ?_
    refine fine_ask O (n := 100000) (q := 2) (by kernel_rfl) ?_
    refine fine_ask O (n := 100000) (q := 2) (by kernel_rfl) ?_
    refine fine_call O (n := 100000) (n' := 100000) (q := 0) (fun b c => by cases b <;> cases c <;> kernel_rfl) ?_
    refine fine_ask O (n := 100000) (q := 3) (by kernel_rfl) ?_
    refine fine_ask O (n := 100000) (q := 7) (by kernel_rfl) ?_
    refine fine_ask O (n := 100000) (q := 4) (by kernel_rfl) ?_
    refine fine_ask O (n := 100000) (q := 6) (by kernel_rfl) ?_
    refine fine_ask O (n := 100000) (q := 2) (by kernel_rfl) ?_
    refine fine_ask O (n := 100000) (q := 2) (by kernel_rfl) ?_
    refine fine_call O (n := 100000) (n' := 100000) (q := 0) (fun b c => by cases b <;> cases c <;> kernel_rfl) ?_
    refine fine_ask O (n := 100000) (q := 5) (by kernel_rfl) ?_
    refine fine_ask O (n := 100000) (q := 17) (by kernel_rfl) ?_
    refine fine_ask O (n := 100000) (q := 51) (by kernel_rfl) ?_
    refine fine_ask O (n := 100000) (q := 19) (by kernel_rfl) ?_
    refine fine_ask O (n := 100000) (q := 4) (by kernel_rfl) ?_
    refine fine_ask O (n := 100000) (q := 28) (by kernel_rfl) ?_
    refine fine_ask O (n := 100000) (q := 2) (by kernel_rfl) ?_
    refine fine_par O (n := 100000) (q := 28) 55 par55 (by kernel_rfl) (by kernel_rfl) (by kernel_rfl) (by kernel_rfl) (by kernel_rfl) ?_
    intro g
    refine fine_ask O (n := 100000) (q := 1) (by kernel_rfl) ?_
    refine fine_same O (n := 100000) (q := 1000) 711 646 (by kernel_rfl) (by kernel_rfl) (by kernel_rfl) ?_
    exact fine_true (by kernel_rfl) hR
  · intro P t m p D O hR
    refine fine_go O (n := 100000) (q := 4) ?_
    refine fine_ask O (n := 100000) (q := 12) (by kernel_rfl) ?_
    refine fine_ask O (n := 100000) (q := 12) (by kernel_rfl) ?_
    refine fine_ask O (n := 100000) (q := 4) (by kernel_rfl) ?_
    refine fine_ask O (n := 100000) (q := 6) (by kernel_rfl) ?_
    refine fine_contains O (n := 100000) (q := 4) 626 ⟨#[87, 69]⟩ (Nat.add (St.t₀ (V2 P t)) 9) (by kernel_rfl) (by kernel_rfl) ?_
    refine fine_ask O (n := 100000) (q := 2) (by kernel_rfl) ?_
    refine fine_ask O (n := 100000) (q := 5) (by kernel_rfl) ?_
    refine fine_ask O (n := 100000) (q := 2) (by kernel_rfl) ?_
    refine fine_ask O (n := 100000) (q := 2) (by kernel_rfl) ?_
    refine fine_call O (n := 100000) (n' := 100000) (q := 0) (fun b c => by cases b <;> cases c <;> kernel_rfl) ?_
    refine fine_ask O (n := 100000) (q := 3) (by kernel_rfl) ?_
    refine fine_ask O (n := 100000) (q := 7) (by kernel_rfl) ?_
    refine fine_ask O (n := 100000) (q := 4) (by kernel_rfl) ?_
    refine fine_ask O (n := 100000) (q := 6) (by kernel_rfl) ?_
    refine fine_ask O (n := 100000) (q := 2) (by kernel_rfl) ?_
    refine fine_ask O (n := 100000) (q := 2) (by kernel_rfl) ?_
    refine fine_call O (n := 100000) (n' := 100000) (q := 0) (fun b c => by cases b <;> cases c <;> kernel_rfl) ?_
    refine fine_ask O (n := 100000) (q := 5) (by kernel_rfl) ?_
    refine fine_ask O (n := 100000) (q := 17) (by kernel_rfl) ?_
    refine fine_ask O (n := 100000) (q := 51) (by kernel_rfl) ?_
    refine fine_ask O (n := 100000) (q := 19) (by kernel_rfl) ?_
    refine fine_ask O (n := 100000) (q := 4) (by kernel_rfl) ?_
    refine fine_ask O (n := 100000) (q := 28) (by kernel_rfl) ?_
    refine fine_ask O (n := 100000) (q := 2) (by kernel_rfl) ?_
    refine fine_par O (n := 100000) (q := 28) 55 par55 (by kernel_rfl) (by kernel_rfl) (by kernel_rfl) (by kernel_rfl) (by kernel_rfl) ?_
    intro g
    refine fine_ask O (n := 100000) (q := 1) (by kernel_rfl) ?_
    refine fine_same O (n := 100000) (q := 1000) 711 646 (by kernel_rfl) (by kernel_rfl) (by kernel_rfl) ?_
    exact fine_true (by kernel_rfl) hR
end Mine

namespace Mine
theorem g15 : RunOk 0 ⟨#[45, 53, 51, 83, 65]⟩ ∧
  RunOk 0 ⟨#[45, 53, 51, 83, 85]⟩ ∧
  RunOk 0 ⟨#[45, 53, 51, 84, 72]⟩ ∧
  RunOk 0 ⟨#[45, 53, 51, 84, 117]⟩ ∧
  RunOk 0 ⟨#[45, 53, 51, 102, 114]⟩ ∧
  RunOk 0 ⟨#[45, 53, 51, 109, 111]⟩ ∧
  RunOk 0 ⟨#[45, 53, 51, 119, 69]⟩ := by
  refine ⟨?_, ?_, ?_, ?_, ?_, ?_, ?_⟩
  · intro P t m p D O hR
    refine fine_go O (n := 100000) (q := 4) ?_
    refine fine_ask O (n := 100000) (q := 12) (by kernel_rfl) ?_
    refine fine_ask O (n := 100000) (q := 12) (by kernel_rfl) ?_
    refine fine_ask O (n := 100000) (q := 4) (by kernel_rfl) ?_
    refine fine_ask O (n := 100000) (q := 8) (by kernel_rfl) ?_
    refine fine_contains O (n := 100000) (q := 4) 627 ⟨#[83, 65]⟩ (Nat.add (St.t₀ (V2 P t)) 9) (by kernel_rfl) (by kernel_rfl) ?_
    refine fine_ask O (n := 100000) (q := 2) (by kernel_rfl) ?_
    refine fine_ask O (n := 100000) (q := 5) (by kernel_rfl) ?_
    refine fine_ask O (n := 100000) (q := 2) (by kernel_rfl) ?_
    refine fine_ask O (n := 100000) (q := 2) (by kernel_rfl) ?_
    refine fine_call O (n := 100000) (n' := 100000) (q := 0) (fun b c => by cases b <;> cases c <;> kernel_rfl) ?_
    refine fine_ask O (n := 100000) (q := 3) (by kernel_rfl) ?_
    refine fine_ask O (n := 100000) (q := 7) (by kernel_rfl) ?_
    refine fine_ask O (n := 100000) (q := 4) (by kernel_rfl) ?_
    refine fine_ask O (n := 100000) (q := 8) (by kernel_rfl) ?_
    refine fine_ask O (n := 100000) (q := 2) (by kernel_rfl) ?_
    refine fine_ask O (n := 100000) (q := 2) (by kernel_rfl) ?_
    refine fine_call O (n := 100000) (n' := 100000) (q := 0) (fun b c => by cases b <;> cases c <;> kernel_rfl) ?_
    refine fine_ask O (n := 100000) (q := 5) (by kernel_rfl) ?_
    refine fine_ask O (n := 100000) (q := 19) (by kernel_rfl) ?_
    refine fine_ask O (n := 100000) (q := 51) (by kernel_rfl) ?_
    refine fine_ask O (n := 100000) (q := 19) (by kernel_rfl) ?_
    refine fine_ask O (n := 100000) (q := 4) (by kernel_rfl) ?_
    refine fine_ask O (n := 100000) (q := 28) (by kernel_rfl) ?_
    refine fine_ask O (n := 100000) (q := 21) (by kernel_rfl) ?_
    refine fine_par O (n := 100000) (q := 28) 57 par57 (by kernel_rfl) (by kernel_rfl) (by kernel_rfl) (by kernel_rfl) (by kernel_rfl) ?_
    intro g
    refine fine_ask O (n := 100000) (q := 1) (by kernel_rfl) ?_
    refine fine_same O (n := 100000) (q := 1000) 713 648 (by kernel_rfl) (by kernel_rfl) (by kernel_rfl) ?_
    exact fine_true (by kernel_rfl) hR
  · intro P t m p D O hR
    refine fine_go O (n := 100000) (q := 4) ?_
    refine fine_ask O (n := 100000) (q := 12) (by kernel_rfl) ?_
    refine fine_ask O (n := 100000) (q := 12) (by kernel_rfl) ?_
    refine fine_ask O (n := 100000) (q := 4) (by kernel_rfl) ?_
    refine fine_ask O (n := 100000) (q := 8) (by kernel_rfl) ?_
    refine fine_contains O (n := 100000) (q := 4) 627 ⟨#[83, 85]⟩ (Nat.add (St.t₀ (V2 P t)) 9) (by kernel_rfl) (by kernel_rfl) ?_
    refine fine_ask O (n := 100000) (q := 2) (by kernel_rfl) ?_
    refine fine_ask O (n := 100000) (q := 5) (by kernel_rfl) ?_
    refine fine_ask O (n := 100000) (q := 2) (by kernel_rfl) ?_
    refine fine_ask O (n := 100000) (q := 2) (by kernel_rfl) ?_
    refine fine_call O (n := 100000) (n' := 100000) (q := 0) (fun b c => by cases b <;> cases c <;> kernel_rfl) ?_
    refine fine_ask O (n := 100000) (q := 3) (by kernel_rfl) ?_
    refine fine_ask O (n := 100000) (q := 7) (by kernel_rfl) ?_
    refine fine_ask O (n := 100000) (q := 4) (by kernel_rfl) ?_
    refine fine_ask O (n := 100000) (q := 8) (by kernel_rfl) ?_
    refine fine_ask O (n := 100000) (q := 2) (by kernel_rfl) ?_
    refine fine_ask O (n := 100000) (q := 2) (by kernel_rfl) ?_
    refine fine_call O (n := 100000) (n' := 100000) (q := 0) (fun b c => by cases b <;> cases c <;> kernel_rfl) ?_
    refine fine_ask O (n := 100000) (q := 5) (by kernel_rfl) ?_
    refine fine_ask O (n := 100000) (q := 19) (by kernel_rfl) ?_
    refine fine_ask O (n := 100000) (q := 51) (by kernel_rfl) ?_
    refine fine_ask O (n := 100000) (q := 19) (by kernel_rfl) ?_
    refine fine_ask O (n := 100000) (q := 4) (by kernel_rfl) ?_
    refine fine_ask O (n := 100000) (q := 28) (by kernel_rfl) ?_
    refine fine_ask O (n := 100000) (q := 21) (by kernel_rfl) ?_
    refine fine_par O (n := 100000) (q := 28) 57 par57 (by kernel_rfl) (by kernel_rfl) (by kernel_rfl) (by kernel_rfl) (by kernel_rfl) ?_
    intro g
    refine fine_ask O (n := 100000) (q := 1) (by kernel_rfl) ?_
    refine fine_same O (n := 100000) (q := 1000) 713 648 (by kernel_rfl) (by kernel_rfl) (by kernel_rfl) ?_
    exact fine_true (by kernel_rfl) hR
  · intro P t m p D O hR
    refine fine_go O (n := 100000) (q := 4) ?_
    refine fine_ask O (n := 100000) (q := 12) (by kernel_rfl) ?_
    refine fine_ask O (n := 100000) (q := 12) (by kernel_rfl) ?_
    refine fine_ask O (n := 100000) (q := 4) (by kernel_rfl) ?_
    refine fine_ask O (n := 100000) (q := 8) (by kernel_rfl) ?_
    refine fine_contains O (n := 100000) (q := 4) 627 ⟨#[84, 72]⟩ (Nat.add (St.t₀ (V2 P t)) 9) (by kernel_rfl) (by kernel_rfl) ?_
    refine fine_ask O (n := 100000) (q := 2) (by kernel_rfl) ?_
    refine fine_ask O (n := 100000) (q := 5) (by kernel_rfl) ?_
    refine fine_ask O (n := 100000) (q := 2) (by kernel_rfl) ?_
    refine fine_ask O (n := 100000) (q := 2) (by kernel_rfl) ?_
    refine fine_call O (n := 100000) (n' := 100000) (q := 0) (fun b c => by cases b <;> cases c <;> kernel_rfl) ?_
    refine fine_ask O (n := 100000) (q := 3) (by kernel_rfl) ?_
    refine fine_ask O (n := 100000) (q := 7) (by kernel_rfl) ?_
    refine fine_ask O (n := 100000) (q := 4) (by kernel_rfl) ?_
    refine fine_ask O (n := 100000) (q := 8) (by kernel_rfl) ?_
    refine fine_ask O (n := 100000) (q := 2) (by kernel_rfl) ?_
    refine fine_ask O (n := 100000) (q := 2) (by kernel_rfl) ?_
    refine fine_call O (n := 100000) (n' := 100000) (q := 0) (fun b c => by cases b <;> cases c <;> kernel_rfl) ?_
    refine fine_ask O (n := 100000) (q := 5) (by kernel_rfl) ?_
    refine fine_ask O (n := 100000) (q := 19) (by kernel_rfl) ?_
    refine fine_ask O (n := 100000) (q := 51) (by kernel_rfl) ?_
    refine fine_ask O (n := 100000) (q := 19) (by kernel_rfl) ?_
    refine fine_ask O (n := 100000) (q := 4) (by kernel_rfl) ?_
    refine fine_ask O (n := 100000) (q := 28) (by kernel_rfl) ?_
    refine fine_ask O (n := 100000) (q := 21) (by kernel_rfl) ?_
    refine fine_par O (n := 100000) (q := 28) 57 par57 (by kernel_rfl) (by kernel_rfl) (by kernel_rfl) (by kernel_rfl) (by kernel_rfl) ?_
    intro g
    refine fine_ask O (n := 100000) (q := 1) (by kernel_rfl) ?_
    refine fine_same O (n := 100000) (q := 1000) 713 648 (by kernel_rfl) (by kernel_rfl) (by kernel_rfl) ?_
    exact fine_true (by kernel_rfl) hR
  · intro P t m p D O hR
    refine fine_go O (n := 100000) (q := 4) ?_
    refine fine_ask O (n := 100000) (q := 12) (by kernel_rfl) ?_
    refine fine_ask O (n := 100000) (q := 12) (by kernel_rfl) ?_
    refine fine_ask O (n := 100000) (q := 4) (by kernel_rfl) ?_
    refine fine_ask O (n := 100000) (q := 8) (by kernel_rfl) ?_
    refine fine_contains O (n := 100000) (q := 4) 627 ⟨#[84, 85]⟩ (Nat.add (St.t₀ (V2 P t)) 9) (by kernel_rfl) (by kernel_rfl) ?_
    refine fine_ask O (n := 100000) (q := 2) (by kernel_rfl) ?_
    refine fine_ask O (n := 100000) (q := 5) (by kernel_rfl) ?_
    refine fine_ask O (n := 100000) (q := 2) (by kernel_rfl) ?_
    refine fine_ask O (n := 100000) (q := 2) (by kernel_rfl) ?_
    refine fine_call O (n := 100000) (n' := 100000) (q := 0) (fun b c => by cases b <;> cases c <;> kernel_rfl) ?_
    refine fine_ask O (n := 100000) (q := 3) (by kernel_rfl) ?_
    refine fine_ask O (n := 100000) (q := 7) (by kernel_rfl) ?_
    refine fine_ask O (n := 100000) (q := 4) (by kernel_rfl) ?_
    refine fine_ask O (n := 100000) (q := 8) (by kernel_rfl) ?_
    refine fine_ask O (n := 100000) (q := 2) (by kernel_rfl) ?_
    refine fine_ask O (n := 100000) (q := 2) (by kernel_rfl) ?_
    refine fine_call O (n := 100000) (n' := 100000) (q := 0) (fun b c => by cases b <;> cases c <;> kernel_rfl) ?_
    refine fine_ask O (n := 100000) (q := 5) (by kernel_rfl) ?_
    refine fine_ask O (n := 100000) (q := 19) (by kernel_rfl) ?_
    refine fine_ask O (n := 100000) (q := 51) (by kernel_rfl) ?_
    refine fine_ask O (n := 100000) (q := 19) (by kernel_rfl) ?_
    refine fine_ask O (n := 100000) (q := 4) (by kernel_rfl) ?_
    refine fine_ask O (n := 100000) (q := 28) (by kernel_rfl) ?_
    refine fine_ask O (n := 100000) (q := 21) (by kernel_rfl) ?_
    refine fine_par O (n := 100000) (q := 28) 57 par57 (by kernel_rfl) (by kernel_rfl) (by kernel_rfl) (by kernel_rfl) (by kernel_rfl) ?_
    intro g
    refine fine_ask O (n := 100000) (q := 1) (by kernel_rfl) ?_
    refine fine_same O (n := 100000) (q := 1000) 713 648 (by kernel_rfl) (by kernel_rfl) (by kernel_rfl) ?_
    exact fine_true (by kernel_rfl) hR
  · intro P t m p D O hR
    refine fine_go O (n := 100000) (q := 4) ?_
    refine fine_ask O (n := 100000) (q := 12) (by kernel_rfl) ?_
    refine fine_ask O (n := 100000) (q := 12) (by kernel_rfl) ?_
    refine fine_ask O (n := 100000) (q := 4) (by kernel_rfl) ?_
    refine fine_ask O (n := 100000) (q := 8) (by kernel_rfl) ?_
    refine fine_contains O (n := 100000) (q := 4) 627 ⟨#[70, 82]⟩ (Nat.add (St.t₀ (V2 P t)) 9) (by kernel_rfl) (by kernel_rfl) ?_
    refine fine_ask O (n := 100000) (q := 2) (by kernel_rfl) ?_
    refine fine_ask O (n := 100000) (q := 5) (by kernel_rfl) ?_
    refine fine_ask O (n := 100000) (q := 2) (by kernel_rfl) ?_
    refine fine_ask O (n := 100000) (q := 2) (by kernel_rfl) ?_
    refine fine_call O (n := 100000) (n' := 100000) (q := 0) (fun b c => by cases b <;> cases c <;> kernel_rfl) ?_
    refine fine_ask O (n := 100000) (q := 3) (by kernel_rfl) ?_
    refine fine_ask O (n := 100000) (q := 7) (by kernel_rfl) ?_
    refine fine_ask O (n := 100000) (q := 4) (by kernel_rfl) ?_
    refine fine_ask O (n := 100000) (q := 8) (by kernel_rfl) ?_
    refine fine_ask O (n := 100000) (q := 2) (by kernel_rfl) ?_
    refine fine_ask O (n := 100000) (q := 2) (by kernel_rfl) ?_
    refine fine_call O (n := 100000) (n' := 100000) (q := 0) (fun b c => by cases b <;> cases c <;> kernel_rfl) ?_
    refine fine_ask O (n := 100000) (q := 5) (by kernel_rfl) ?_
    refine fine_ask O (n := 100000) (q := 19) (by kernel_rfl) ?_
    refine fine_ask O (n := 100000) (q := 51) (by kernel_rfl) ?_
    refine fine_ask O (n := 100000) (q := 19) (by kernel_rfl) ?_
    refine fine_ask O (n := 100000) (q := 4) (by kernel_rfl) ?_
    refine fine_ask O (n := 100000) (q := 28) (by kernel_rfl) ?_
    refine fine_ask O (n := 100000) (q := 21) (by kernel_rfl) ?_
    refine fine_par O (n := 100000) (q := 28) 57 par57 (by kernel_rfl) (by kernel_rfl) (by kernel_rfl) (by kernel_rfl) (by kernel_rfl) ?_
    intro g
    refine fine_ask O (n := 100000) (q := 1) (by kernel_rfl) ?_
    refine fine_same O (n := 100000) (q := 1000) 713 648 (by kernel_rfl) (by kernel_rfl) (by kernel_rfl) ?_
    exact fine_true (by kernel_rfl) hR
  · intro P t m p D O hR
    refine fine_go O (n := 100000) (q := 4) ?_
    refine fine_ask O (n := 100000) (q := 12) (by kernel_rfl) ?_
    refine fine_ask O (n := 100000) (q := 12) (by kernel_rfl) ?_
    refine fine_ask O (n := 100000) (q := 4) (by kernel_rfl) ?_
    refine fine_ask O (n := 100000) (q := 8) (by kernel_rfl) ?_
    refine fine_contains O (n := 100000) (q := 4) 627 ⟨#[77, 79]⟩ (Nat.add (St.t₀ (V2 P t)) 9) (by kernel_rfl) (by kernel_rfl) ?_
    refine fine_ask O (n := 100000) (q := 2) (by kernel_rfl) ?_
    refine fine_ask O (n := 100000) (q := 5) (by kernel_rfl) ?_
    refine fine_ask O (n := 100000) (q := 2) (by kernel_rfl) ?_
    refine fine_ask O (n := 100000) (q := 2) (by kernel_rfl) ?_
    refine fine_call O (n := 100000) (n' := 100000) (q := 0) (fun b c => by cases b <;> cases c <;> kernel_rfl) ?_
    refine fine_ask O (n := 100000) (q := 3) (by kernel_rfl) ?_
    refine fine_ask O (n := 100000) (q := 7) (by kernel_rfl) ?_
    refine fine_ask O (n := 100000) (q := 4) (by kernel_rfl) ?_
    refine fine_ask O (n := 100000) (q := 8) (by kernel_rfl) ?_
    refine fine_ask O (n := 100000) (q := 2) (by kernel_rfl) ?_
    refine fine_ask O (n := 100000) (q := 2) (by kernel_rfl) ?_
    refine fine_call O (n := 100000) (n' := 100000) (q := 0) (fun b c => by cases b <;> cases c <;> kernel_rfl) ?_
    refine fine_ask O (n := 100000) (q := 5) (by kernel_rfl) ?_
    refine fine_ask O (n := 100000) (q := 19) (by kernel_rfl) ?_
    refine fine_ask O (n := 100000) (q := 51) (by kernel_rfl) ?_
    refine fine_ask O (n := 100000) (q := 19) (by kernel_rfl) ?_
    refine fine_ask O (n := 100000) (q := 4) (by kernel_rfl) ?_
    refine fine_ask O (n := 100000) (q := 28) (by kernel_rfl) ?_
    refine fine_ask O (n := 100000) (q := 21) (by kernel_rfl) ?_
    refine fine_par O (n := 100000) (q := 28) 57 par57 (by kernel_rfl) (by kernel_rfl) (by kernel_rfl) (by kernel_rfl) (by kernel_rfl) ?_
    intro g
    refine fine_ask O (n := 100000) (q := 1) (by kernel_rfl) ?_
    refine fine_same O (n := 100000) (q := 1000) 713 648 (by kernel_rfl) (by kernel_rfl) (by kernel_rfl) ?_
    exact fine_true (by kernel_rfl) hR
  · intro P t m p D O hR
    refine fine_go O (n := 100000) (q := 4) ?_
    refine fine_ask O (n := 100000) (q := 12) (by kernel_rfl) ?_
    refine fine_ask O (n := 100000) (q := 12) (by kernel_rfl) ?_
    refine fine_ask O (n := 100000) (q := 4) (by kernel_rfl) ?_
    refine fine_ask O (n := 100000) (q := 8) (by kernel_rfl) ?_
    refine fine_contains O (n := 100000) (q := 4) 627 ⟨#[87, 69]⟩ (Nat.add (St.t₀ (V2 P t)) 9) (by kernel_rfl) (by kernel_rfl) ?_
    refine fine_ask O (n := 100000) (q := 2) (by kernel_rfl) ?_
    refine fine_ask O (n := 100000) (q := 5) (by kernel_rfl) ?_
    refine fine_ask O (n := 100000) (q := 2) (by kernel_rfl) ?_
    refine fine_ask O (n := 100000) (q := 2) (by kernel_rfl) ?_
    refine fine_call O (n := 100000) (n' := 100000) (q := 0) (fun b c => by cases b <;> cases c <;> kernel_rfl) ?_
    refine fine_ask O (n := 100000) (q := 3) (by kernel_rfl) ?_
    refine fine_ask O (n := 100000) (q := 7) (by kernel_rfl) ?_
    refine fine_ask O (n := 100000) (q := 4) (by kernel_rfl) ?_
    refine fine_ask O (n := 100000) (q := 8) (by kernel_rfl) ?_
    refine fine_ask O (n := 100000) (q := 2) (by kernel_rfl) ?_
    refine fine_ask O (n := 100000) (q := 2) (by kernel_rfl) ?_
    refine fine_call O (n := 100000) (n' := 100000) (q := 0) (fun b c => by cases b <;> cases c <;> kernel_rfl) ?_
    refine fine_ask O (n := 100000) (q := 5) (by kernel_rfl) ?_
    refine fine_ask O (n := 100000) (q := 19) (by kernel_rfl) ?_
    refine fine_ask O (n := 100000) (q := 51) (by kernel_rfl) ?_
    refine fine_ask O (n := 100000) (q := 19) (by kernel_rfl) ?_
    refine fine_ask O (n := 100000) (q := 4) (by kernel_rfl) ?_
    refine fine_ask O (n := 100000) (q := 28) (by kernel_rfl) ?_
    refine fine_ask O (n := 100000) (q := 21) (by kernel_rfl) ?_
    refine fine_par O (n := 100000) (q := 28) 57 par57 (by kernel_rfl) (by kernel_rfl) (by kernel_rfl) (by kernel_rfl) (by kernel_rfl) ?_
    intro g
    refine fine_ask O (n := 100000) (q := 1) (by kernel_rfl) ?_
    refine fine_same O (n := 100000) (q := 1000) 713 648 (by kernel_rfl) (by kernel_rfl) (by kernel_rfl) ?_
    exact fine_true (by kernel_rfl) hR
end Mine

namespace Mine
theorem g16 : RunOk 0 ⟨#[45, 48, 48, 83, 65]⟩ ∧
  RunOk 0 ⟨#[45, 48, 48, 83, 85]⟩ ∧
  RunOk 0 ⟨#[45, 48, 48, 84, 72]⟩ ∧
  RunOk 0 ⟨#[45, 48, 48, 84, 117]⟩ ∧
  RunOk 0 ⟨#[45, 48, 48, 102, 114]⟩ ∧
  RunOk 0 ⟨#[45, 48, 48, 109, 111]⟩ ∧
  RunOk 0 ⟨#[45, 48, 48, 119, 69]⟩ := by
  refine ⟨?_, ?_, ?_, ?_, ?_, ?_, ?_⟩
  · intro P t m p D O hR
    refine fine_go O (n := 100000) (q := 4) ?_
    refine fine_ask O (n := 100000) (q := 12) (by kernel_rfl) ?_
    refine fine_ask O (n := 100000) (q := 12) (by kernel_rfl) ?_
    refine fine_ask O (n := 100000) (q := 4) (by kernel_rfl) ?_
    refine fine_ask O (n := 100000) (q := 8) (by kernel_rfl) ?_
    refine fine_contains O (n := 100000) (q := 4) 627 ⟨#[83, 65]⟩ (Nat.add (St.t₀ (V2 P t)) 9) (by kernel_rfl) (by kernel_rfl) ?_
    refine fine_ask O (n := 100000) (q := 2) (by kernel_rfl) ?_
    refine fine_ask O (n := 100000) (q := 5) (by kernel_rfl) ?_
    refine fine_ask O (n := 100000) (q := 2) (by kernel_rfl) ?_
    refine fine_ask O (n := 100000) (q := 2) (by kernel_rfl) ?_
    refine fine_call O (n := 100000) (n' := 100000) (q := 0) (fun b c => by cases b <;> cases c <;> kernel_rfl) ?_
    refine fine_ask O (n := 100000) (q := 3) (by kernel_rfl) ?_
    refine fine_ask O (n := 100000) (q := 7) (by kernel_rfl) ?_
    refine fine_ask O (n := 100000) (q := 4) (by kernel_rfl) ?_
    refine fine_ask O (n := 100000) (q := 8) (by kernel_rfl) ?_
    refine fine_ask O (n := 100000) (q := 2) (by kernel_rfl) ?_
    refine fine_ask O (n := 100000) (q := 2) (by kernel_rfl) ?_
    refine fine_call O (n := 100000) (n' := 100000) (q := 0) (fun b c => by cases b <;> cases c <;> kernel_rfl) ?_
    refine fine_ask O (n := 100000) (q := 5) (by kernel_rfl) ?_
    refine fine_ask O (n := 100000) (q := 19) (by kernel_rfl) ?_
    refine fine_ask O (n := 100000) (q := 51) (by kernel_rfl) ?_
    refine fine_ask O (n := 100000) (q := 19) (by kernel_rfl) ?_
    refine fine_ask O (n := 100000) (q := 4) (by kernel_rfl) ?_
    refine fine_ask O (n := 100000) (q := 28) (by kernel_rfl) ?_
    refine fine_ask O (n := 100000) (q := 6) (by kernel_rfl) ?_
    refine fine_par O (n := 100000) (q := 28) 57 par57 (by kernel_rfl) (by kernel_rfl) (by kernel_rfl) (by kernel_rfl) (by kernel_rfl) ?_
    intro g
    refine fine_ask O (n := 100000) (q := 1) (by kernel_rfl) ?_
    refine fine_same O (n := 100000) (q := 1000) 713 648 (by kernel_rfl) (by kernel_rfl) (by kernel_rfl) ?_
    exact fine_true (by kernel_rfl) hR
  · intro P t m p D O hR
    refine fine_go O (n := 100000) (q := 4) ?_
    refine fine_ask O (n := 100000) (q := 12) (by kernel_rfl) ?_
    refine fine_ask O (n := 100000) (q := 12) (by kernel_rfl) ?_
    refine fine_ask O (n := 100000) (q := 4) (by kernel_rfl) ?_
    refine fine_ask O (n := 100000) (q := 8) (by kernel_rfl) ?_
    refine fine_contains O (n := 100000) (q := 4) 627 ⟨#[83, 85]⟩ (Nat.add (St.t₀ (V2 P t)) 9) (by kernel_rfl) (by kernel_rfl) ?_
    refine fine_ask O (n := 100000) (q := 2) (by kernel_rfl) ?_
    refine fine_ask O (n := 100000) (q := 5) (by kernel_rfl) ?_
    refine fine_ask O (n := 100000) (q := 2) (by kernel_rfl) ?_
    refine fine_ask O (n := 100000) (q := 2) (by kernel_rfl) ?_
    refine fine_call O (n := 100000) (n' := 100000) (q := 0) (fun b c => by cases b <;> cases c <;> kernel_rfl) ?_
    refine fine_ask O (n := 100000) (q := 3) (by kernel_rfl) ?_
    refine fine_ask O (n := 100000) (q := 7) (by kernel_rfl) ?_
    refine fine_ask O (n := 100000) (q := 4) (by kernel_rfl) ?_
    refine fine_ask O (n := 100000) (q := 8) (by kernel_rfl) ?_
    refine fine_ask O (n := 100000) (q := 2) (by kernel_rfl) ?_
    refine fine_ask O (n := 100000) (q := 2) (by kernel_rfl) ?_
    refine fine_call O (n := 100000) (n' := 100000) (q := 0) (fun b c => by cases b <;> cases c <;> kernel_rfl) ?_
    refine fine_ask O (n := 100000) (q := 5) (by kernel_rfl) ?_
    refine fine_ask O (n := 100000) (q := 19) (by kernel_rfl) ?_
    refine fine_ask O (n := 100000) (q := 51) (by kernel_rfl) ?_
    refine fine_ask O (n := 100000) (q := 19) (by kernel_rfl) ?_
    refine fine_ask O (n := 100000) (q := 4) (by kernel_rfl) ?_
    refine fine_ask O (n := 100000) (q := 28) (by kernel_rfl) ?_
    refine fine_ask O (n := 100000) (q := 6) (by kernel_rfl) ?_
    refine fine_par O (n := 100000) (q := 28) 57 par57 (by kernel_rfl) (by kernel_rfl) (by kernel_rfl) (by kernel_rfl) (by kernel_rfl) ?_
    intro g
    refine fine_ask O (n := 100000) (q := 1) (by kernel_rfl) ?_
    refine fine_same O (n := 100000) (q := 1000) 713 648 (by kernel_rfl) (by kernel_rfl) (by kernel_rfl) ?_
    exact fine_true (by kernel_rfl) hR
  · intro P t m p D O hR
    refine fine_go O (n := 100000) (q := 4) ?_
    refine fine_ask O (n := 100000) (q := 12) (by kernel_rfl) ?_
    refine fine_ask O (n := 100000) (q := 12) (by kernel_rfl) ?_
    refine fine_ask O (n := 100000) (q := 4) (by kernel_rfl) ?_
    refine fine_ask O (n := 100000) (q := 8) (by kernel_rfl) ?_
    refine fine_contains O (n := 100000) (q := 4) 627 ⟨#[84, 72]⟩ (Nat.add (St.t₀ (V2 P t)) 9) (by kernel_rfl) (by kernel_rfl) ?_
    refine fine_ask O (n := 100000) (q := 2) (by kernel_rfl) ?_
    refine fine_ask O (n := 100000) (q := 5) (by kernel_rfl) ?_
    refine fine_ask O (n := 100000) (q := 2) (by kernel_rfl) ?_
    refine fine_ask O (n := 100000) (q := 2) (by kernel_rfl) ?_
    refine fine_call O (n := 100000) (n' := 100000) (q := 0) (fun b c => by cases b <;> cases c <;> kernel_rfl) ?_
    refine fine_ask O (n := 100000) (q := 3) (by kernel_rfl) ?_
    refine fine_ask O (n := 100000) (q := 7) (by kernel_rfl) ?_
    refine fine_ask O (n := 100000) (q := 4) (by kernel_rfl) ?_
    refine fine_ask O (n := 100000) (q := 8) (by kernel_rfl) ?_
    refine fine_ask O (n := 100000) (q := 2) (by kernel_rfl) ?_
    refine fine_ask O (n := 100000) (q := 2) (by kernel_rfl) ?_
    refine fine_call O (n := 100000) (n' := 100000) (q := 0) (fun b c => by cases b <;> cases c <;> kernel_rfl) ?_
    refine fine_ask O (n := 100000) (q := 5) (by kernel_rfl) ?_
    refine fine_ask O (n := 100000) (q := 19) (by kernel_rfl) ?_
    refine fine_ask O (n := 100000) (q := 51) (by kernel_rfl) ?_
    refine fine_ask O (n := 100000) (q := 19) (by kernel_rfl) ?_
    refine fine_ask O (n := 100000) (q := 4) (by kernel_rfl) ?_
    refine fine_ask O (n := 100000) (q := 28) (by kernel_rfl) ?_
    refine fine_ask O (n := 100000) (q := 6) (by kernel_rfl) ?_
    refine fine_par O (n := 100000) (q := 28) 57 par57 (by kernel_rfl) (by kernel_rfl) (by kernel_rfl) (by kernel_rfl) (by kernel_rfl) ?_
    intro g
    refine fine_ask O (n := 100000) (q := 1) (by kernel_rfl) ?_
    refine fine_same O (n := 100000) (q := 1000) 713 648 (by kernel_rfl) (by kernel_rfl) (by kernel_rfl) ?_
    exact fine_true (by kernel_rfl) hR
  · intro P t m p D O hR
    refine fine_go O (n := 100000) (q := 4) ?_
    refine fine_ask O (n := 100000) (q := 12) (by kernel_rfl) ?_
    refine fine_ask O (n := 100000) (q := 12) (by kernel_rfl) ?_
    refine fine_ask O (n := 100000) (q := 4) (by kernel_rfl) ?_
    refine fine_ask O (n := 100000) (q := 8) (by kernel_rfl) ?_
    refine fine_contains O (n := 100000) (q := 4) 627 ⟨#[84, 85]⟩ (Nat.add (St.t₀ (V2 P t)) 9) (by kernel_rfl) (by kernel_rfl) ?_
    refine fine_ask O (n := 100000) (q := 2) (by kernel_rfl) ?_
    refine fine_ask O (n := 100000) (q := 5) (by kernel_rfl) ?_
    refine fine_ask O (n := 100000) (q := 2) (by kernel_rfl) ?_
    refine fine_ask O (n := 100000) (q := 2) (by kernel_rfl) ?_
    refine fine_call O (n := 100000) (n' := 100000) (q := 0) (fun b c => by cases b <;> cases c <;> kernel_rfl) ?_
    refine fine_ask O (n := 100000) (q := 3) (by kernel_rfl) ?_
    refine fine_ask O (n := 100000) (q := 7) (by kernel_rfl) ?_
    refine fine_ask O (n := 100000) (q := 4) (by kernel_rfl) ?_
    refine fine_ask O (n := 100000) (q := 8) (by kernel_rfl) ?_
    refine fine_ask O (n := 100000) (q := 2) (by kernel_rfl) ?_
    refine fine_ask O (n := 100000) (q := 2) (by kernel_rfl) ?_
    refine fine_call O (n := 100000) (n' := 100000) (q := 0) (fun b c => by cases b <;> cases c <;> kernel_rfl) ?_
    refine fine_ask O (n := 100000) (q := 5) (by kernel_rfl) ?_
    refine fine_ask O (n := 100000) (q := 19) (by kernel_rfl) ?_
    refine fine_ask O (n := 100000) (q := 51) (by kernel_rfl) ?_
    refine fine_ask O (n := 100000) (q := 19) (by kernel_rfl) ?_
    refine fine_ask O (n := 100000) (q := 4) (by kernel_rfl) ?_
    refine fine_ask O (n := 100000) (q := 28) (by kernel_rfl) ?_
    refine fine_ask O (n := 100000) (q := 6) (by kernel_rfl) ?_
    refine fine_par O (n := 100000) (q := 28) 57 par57 (by kernel_rfl) (by kernel_rfl) (by kernel_rfl) (by kernel_rfl) (by kernel_rfl) ?_
    intro g
    refine fine_ask O (n := 100000) (q := 1) (by kernel_rfl) ?_
    refine fine_same O (n := 100000) (q := 1000) 713 648 (by kernel_rfl) (by kernel_rfl) (by kernel_rfl) ?_
    exact fine_true (by kernel_rfl) hR
  · intro P t m p D O hR
    refine fine_go O (n := 100000) (q := 4) ?_
    refine fine_ask O (n := 100000) (q := 12) (by kernel_rfl) ?_
    refine fine_ask O (n := 100000) (q := 12) (by kernel_rfl) ?_
    refine fine_ask O (n := 100000) (q := 4) (by kernel_rfl) ?_
    refine fine_ask O (n := 100000) (q := 8) (by kernel_rfl) ?_
    refine fine_contains O (n := 100000) (q := 4) 627 ⟨#[70, 82]⟩ (Nat.add (St.t₀ (V2 P t)) 9) (by kernel_rfl) (by kernel_rfl) ?_
    refine fine_ask O (n := 100000) (q := 2) (by kernel_rfl) ?_
    refine fine_ask O (n := 100000) (q := 5) (by kernel_rfl) ?_
    refine fine_ask O (n := 100000) (q := 2) (by kernel_rfl) ?_
    refine fine_ask O (n := 100000) (q := 2) (by kernel_rfl) ?_
    refine fine_call O (n := 100000) (n' := 100000) (q := 0) (fun b c => by cases b <;> cases c <;> kernel_rfl) ?_
    refine fine_ask O (n := 100000) (q := 3) (by kernel_rfl) ?_
    refine fine_ask O (n := 100000) (q := 7) (by kernel_rfl) ?_
    refine fine_ask O (n := 100000) (q := 4) (by kernel_rfl) ?_
    refine fine_ask O (n := 100000) (q := 8) (by kernel_rfl) ?_
    refine fine_ask O (n := 100000) (q := 2) (by kernel_rfl) ?_
    refine fine_ask O (n := 100000) (q := 2) (by kernel_rfl) ?_
    refine fine_call O (n := 100000) (n' := 100000) (q := 0) (fun b c => by cases b <;> cases c <;> kernel_rfl) ?_
    refine fine_ask O (n := 100000) (q := 5) (by kernel_rfl) ?_
    refine fine_ask O (n := 100000) (q := 19) (by kernel_rfl) ?_
    refine fine_ask O (n := 100000) (q := 51) (by kernel_rfl) ?_
    refine fine_ask O (n := 100000) (q := 19) (by kernel_rfl) ?_
    refine fine_ask O (n := 100000) (q := 4) (by kernel_rfl) ?_
    refine fine_ask O (n := 100000) (q := 28) (by kernel_rfl) ?_
    refine fine_ask O (n := 100000) (q := 6) (by kernel_rfl) ?_
    refine fine_par O (n := 100000) (q := 28) 57 par57 (by kernel_rfl) (by kernel_rfl) (by kernel_rfl) (by kernel_rfl) (by kernel_rfl) ?_
    intro g
    refine fine_ask O (n := 100000) (q := 1) (by kernel_rfl) ?_
    refine fine_same O (n := 100000) (q := 1000) 713 648 (by kernel_rfl) (by kernel_rfl) (by kernel_rfl) ?_
    exact fine_true (by kernel_rfl) hR
  · intro P t m p D O hR
    refine fine_go O (n := 100000) (q := 4) ?_
    refine fine_ask O (n := 100000) (q := 12) (by kernel_rfl) ?_
    refine fine_ask O (n := 100000) (q := 12) (by kernel_rfl) ?_
    refine fine_ask O (n := 100000) (q := 4) (by kernel_rfl) ?_
    refine fine_ask O (n := 100000) (q := 8) (by kernel_rfl) ?_
    refine fine_contains O (n := 100000) (q := 4) 627 ⟨#[77, 79]⟩ (Nat.add (St.t₀ (V2 P t)) 9) (by kernel_rfl) (by kernel_rfl) ?_
    refine fine_ask O (n := 100000) (q := 2) (by kernel_rfl) ?_
    refine fine_ask O (n := 100000) (q := 5) (by kernel_rfl) ?_
    refine fine_ask O (n := 100000) (q := 2) (by kernel_rfl) ?_
    refine fine_ask O (n := 100000) (q := 2) (by kernel_rfl) ?_
    refine fine_call O (n := 100000) (n' := 100000) (q := 0) (fun b c => by cases b <;> cases c <;> kernel_rfl) ?_
    refine fine_ask O (n := 100000) (q := 3) (by kernel_rfl) ?_
    refine fine_ask O (n := 100000) (q := 7) (by kernel_rfl) ?_
    refine fine_ask O (n := 100000) (q := 4) (by kernel_rfl) ?_
    refine fine_ask O (n := 100000) (q := 8) (by kernel_rfl) ?_
    refine fine_ask O (n := 100000) (q := 2) (by kernel_rfl) ?_
    refine fine_ask O (n := 100000) (q := 2) (by kernel_rfl) ?_
    refine fine_call O (n := 100000) (n' := 100000) (q := 0) (fun b c => by cases b <;> cases c <;> kernel_rfl) ?_
    refine fine_ask O (n := 100000) (q := 5) (by kernel_rfl) ?_
    refine fine_ask O (n := 100000) (q := 19) (by kernel_rfl) ?_
    refine fine_ask O (n := 100000) (q := 51) (by kernel_rfl) ?_
    refine fine_ask O (n := 100000) (q := 19) (by kernel_rfl) ?_
    refine fine_ask O (n := 100000) (q := 4) (by kernel_rfl) ?_
    refine fine_ask O (n := 100000) (q := 28) (by kernel_rfl) ?_
    refine fine_ask O (n := 100000) (q := 6) (by kernel_rfl) ?_
    refine fine_par O (n := 100000) (q := 28) 57 par57 (by kernel_rfl) (by kernel_rfl) (by kernel_rfl) (by kernel_rfl) (by kernel_rfl) ?_
    intro g
    refine fine_ask O (n := 100000) (q := 1) (by kernel_rfl) ?_
    refine fine_same O (n := 100000) (q := 1000) 713 648 (by kernel_rfl) (by kernel_rfl) (by kernel_rfl) ?_
    exact fine_true (by kernel_rfl) hR
  · intro P t m p D O hR
    refine fine_go O (n := 100000) (q := 4) ?_
    refine fine_ask O (n := 100000) (q := 12) (by kernel_rfl) ?_
    refine fine_ask O (n := 100000) (q := 12) (by kernel_rfl) ?_
    refine fine_ask O (n := 100000) (q := 4) (by kernel_rfl) ?_
    refine fine_ask O (n := 100000) (q := 8) (by kernel_rfl) ?_
    refine fine_contains O (n := 100000) (q := 4) 627 ⟨#[87, 69]⟩ (Nat.add (St.t₀ (V2 P t)) 9) (by kernel_rfl) (by kernel_rfl) ?_
    refine fine_ask O (n := 100000) (q := 2) (by kernel_rfl) ?_
    refine fine_ask O (n := 100000) (q := 5) (by kernel_rfl) ?_
    refine fine_ask O (n := 100000) (q := 2) (by kernel_rfl) ?_
    refine fine_ask O (n := 100000) (q := 2) (by kernel_rfl) ?_
    refine fine_call O (n := 100000) (n' := 100000) (q := 0) (fun b c => by cases b <;> cases c <;> kernel_rfl) ?_
    refine fine_ask O (n := 100000) (q := 3) (by kernel_rfl) ?_
    refine fine_ask O (n := 100000) (q := 7) (by kernel_rfl) ?_
    refine fine_ask O (n := 100000) (q := 4) (by kernel_rfl) ?_
    refine fine_ask O (n := 100000) (q := 8) (by kernel_rfl) ?_
    refine fine_ask O (n := 100000) (q := 2) (by kernel_rfl) ?_
    refine fine_ask O (n := 100000) (q := 2) (by kernel_rfl) ?_
    refine fine_call O (n := 100000) (n' := 100000) (q := 0) (fun b c => by cases b <;> cases c <;> kernel_rfl) ?_
    refine fine_ask O (n := 100000) (q := 5) (by kernel_rfl) ?_
    refine fine_ask O (n := 100000) (q := 19) (by kernel_rfl) ?_
    refine fine_ask O (n := 100000) (q := 51) (by kernel_rfl) ?_
    refine fine_ask O (n := 100000) (q := 19) (by kernel_rfl) ?_
    refine fine_ask O (n := 100000) (q := 4) (by kernel_rfl) ?_
    refine fine_ask O (n := 100000) (q := 28) (by kernel_rfl) ?_
    refine fine_ask O (n := 100000) (q := 6) (by kernel_rfl) ?_
    refine fine_par O (n := 100000) (q := 28) 57 par57 (by kernel_rfl) (by kernel_rfl) (by kernel_rfl) (by kernel_rfl) (by kernel_rfl) ?_
    intro g
    refine fine_ask O (n := 100000) (q := 1) (by kernel_rfl) ?_
    refine fine_same O (n := 100000) (q := 1000) 713 648 (by kernel_rfl) (by kernel_rfl) (by kernel_rfl) ?_
    exact fine_true (by kernel_rfl) hR
end Mine

namespace Mine
theorem g17 : RunOk 1 ⟨#[]⟩ ∧
  RunOk 1 ⟨#[76]⟩ ∧
  RunOk 1 ⟨#[1635, 76]⟩ ∧
  RunOk 1 ⟨#[1635, 76, 76]⟩ ∧
  RunOk 1 ⟨#[43, 51, 76]⟩ ∧
  RunOk 1 ⟨#[43, 51, 76, 76]⟩ ∧
  RunOk 1 ⟨#[45, 49, 76]⟩ ∧
  RunOk 1 ⟨#[45, 49, 76, 76]⟩ ∧
  RunOk 1 ⟨#[48, 53, 76, 76]⟩ ∧
  RunOk 1 ⟨#[48, 76, 76]⟩ := by
  refine ⟨?_, ?_, ?_, ?_, ?_, ?_, ?_, ?_, ?_, ?_⟩
  · intro P t m p D O hR
    refine fine_go O (n := 100000) (q := 4) ?_
    refine fine_ask O (n := 100000) (q := 2) (by kernel_rfl) ?_
    refine fine_ask O (n := 100000) (q := 6) (by kernel_rfl) ?_
    refine fine_ask O (n := 100000) (q := 7) (by kernel_rfl) ?_
    refine fine_ask O (n := 100000) (q := 7) (by kernel_rfl) ?_
    refine fine_ask O (n := 100000) (q := 2) (by kernel_rfl) ?_
    refine fine_ask O (n := 100000) (q := 46) (by kernel_rfl) ?_
    refine fine_ask O (n := 100000) (q := 2) (by kernel_rfl) ?_
    refine fine_tok O (n := 100000) (q := 1000) (by kernel_rfl) (by kernel_rfl) (fun _ => by kernel_rfl) (fun _ _ => by kernel_rfl) ?_
    intro u tk
    exact fine_true (by kernel_rfl) hR
  · intro P t m p D O hR
    refine fine_go O (n := 100000) (q := 4) ?_
    refine fine_ask O (n := 100000) (q := 2) (by kernel_rfl) ?_
    refine fine_ask O (n := 100000) (q := 6) (by kernel_rfl) ?_
    refine fine_ask O (n := 100000) (q := 11) (by kernel_rfl) ?_
    refine fine_ask O (n := 100000) (q := 7) (by kernel_rfl) ?_
    refine fine_ask O (n := 100000) (q := 2) (by kernel_rfl) ?_
    refine fine_ask O (n := 100000) (q := 50) (by kernel_rfl) ?_
    refine fine_ask O (n := 100000) (q := 6) (by kernel_rfl) ?_
    refine fine_ask O (n := 100000) (q := 2) (by kernel_rfl) ?_
    refine fine_tok O (n := 100000) (q := 1000) (by kernel_rfl) (by kernel_rfl) (fun _ => by kernel_rfl) (fun _ _ => by kernel_rfl) ?_
    intro u tk
    exact fine_true (by kernel_rfl) hR
  · intro P t m p D O hR
    refine fine_go O (n := 100000) (q := 4) ?_
    refine fine_ask O (n := 100000) (q := 2) (by kernel_rfl) ?_
    refine fine_ask O (n := 100000) (q := 6) (by kernel_rfl) ?_
    refine fine_ask O (n := 100000) (q := 11) (by kernel_rfl) ?_
    refine fine_ask O (n := 100000) (q := 2) (by kernel_rfl) ?_
    refine fine_ask O (n := 100000) (q := 2) (by kernel_rfl) ?_
    refine fine_call O (n := 100000) (n' := 100000) (q := 0) (fun b c => by cases b <;> cases c <;> kernel_rfl) ?_
    refine fine_ask O (n := 100000) (q := 7) (by kernel_rfl) ?_
    refine fine_ask O (n := 100000) (q := 2) (by kernel_rfl) ?_
    refine fine_ask O (n := 100000) (q := 48) (by kernel_rfl) ?_
    refine fine_ask O (n := 100000) (q := 4) (by kernel_rfl) ?_
    refine fine_ask O (n := 100000) (q := 2) (by kernel_rfl) ?_
    refine fine_tok O (n := 100000) (q := 1000) (by kernel_rfl) (by kernel_rfl) (fun _ => by kernel_rfl) (fun _ _ => by kernel_rfl) ?_
    intro u tk
    exact fine_true (by kernel_rfl) hR
  · intro P t m p D O hR
    refine fine_go O (n := 100000) (q := 4) ?_
    refine fine_ask O (n := 100000) (q := 2) (by kernel_rfl) ?_
    refine fine_ask O (n := 100000) (q := 6) (by kernel_rfl) ?_
    refine fine_ask O (n := 100000) (q := 11) (by kernel_rfl) ?_
    refine fine_ask O (n := 100000) (q := 2) (by kernel_rfl) ?_
    refine fine_ask O (n := 100000) (q := 2) (by kernel_rfl) ?_
    refine fine_call O (n := 100000) (n' := 100000) (q := 0) (fun b c => by cases b <;> cases c <;> kernel_rfl) ?_
    refine fine_ask O (n := 100000) (q := 7) (by kernel_rfl) ?_
    refine fine_ask O (n := 100000) (q := 2) (by kernel_rfl) ?_
    refine fine_ask O (n := 100000) (q := 48) (by kernel_rfl) ?_
    refine fine_ask O (n := 100000) (q := 4) (by kernel_rfl) ?_
    refine fine_ask O (n := 100000) (q := 2) (by kernel_rfl) ?_
    refine fine_tok O (n := 100000) (q := 1000) (by kernel_rfl) (by kernel_rfl) (fun _ => by kernel_rfl) (fun _ _ => by kernel_rfl) ?_
    intro u tk
    exact fine_true (by kernel_rfl) hR
  · intro P t m p D O hR
    refine fine_go O (n := 100000) (q := 4) ?_
    refine fine_ask O (n := 100000) (q := 2) (by kernel_rfl) ?_
    refine fine_ask O (n := 100000) (q := 6) (by kernel_rfl) ?_
    refine fine_ask O (n := 100000) (q := 11) (by kernel_rfl) ?_
    refine fine_ask O (n := 100000) (q := 2) (by kernel_rfl) ?_
    refine fine_ask O (n := 100000) (q := 2) (by kernel_rfl) ?_
    refine fine_call O (n := 100000) (n' := 100000) (q := 0) (fun b c => by cases b <;> cases c <;> kernel_rfl) ?_
    refine fine_ask O (n := 100000) (q := 7) (by kernel_rfl) ?_
    refine fine_ask O (n := 100000) (q := 2) (by kernel_rfl) ?_
    refine fine_ask O (n := 100000) (q := 50) (by kernel_rfl) ?_
    refine fine_ask O (n := 100000) (q := 6) (by kernel_rfl) ?_
    refine fine_ask O (n := 100000) (q := 2) (by kernel_rfl) ?_
    refine fine_tok O (n := 100000) (q := 1000) (by kernel_rfl) (by kernel_rfl) (fun _ => by kernel_rfl) (fun _ _ => by kernel_rfl) ?_
    intro u tk
    exact fine_true (by kernel_rfl) hR
  · intro P t m p D O hR
    refine fine_go O (n := 100000) (q := 4) ?_
    refine fine_ask O (n := 100000) (q := 2) (by kernel_rfl) ?_
    refine fine_ask O (n := 100000) (q := 6) (by kernel_rfl) ?_
    refine fine_ask O (n := 100000) (q := 11) (by kernel_rfl) ?_
    refine fine_ask O (n := 100000) (q := 2) (by kernel_rfl) ?_
    refine fine_ask O (n := 100000) (q := 2) (by kernel_rfl) ?_
    refine fine_call O (n := 100000) (n' := 100000) (q := 0) (fun b c => by cases b <;> cases c <;> kernel_rfl) ?_
    refine fine_ask O (n := 100000) (q := 7) (by kernel_rfl) ?_
    refine fine_ask O (n := 100000) (q := 2) (by kernel_rfl) ?_
    refine fine_ask O (n := 100000) (q := 50) (by kernel_rfl) ?_
    refine fine_ask O (n := 100000) (q := 6) (by kernel_rfl) ?_
    refine fine_ask O (n := 100000) (q := 2) (by kernel_rfl) ?_
    refine fine_tok O (n := 100000) (q := 1000) (by kernel_rfl) (by kernel_rfl) (fun _ => by kernel_rfl) (fun _ _ => by kernel_rfl) ?_
    intro u tk
    exact fine_true (by kernel_rfl) hR
  · intro P t m p D O hR
    refine fine_go O (n := 100000) (q := 4) ?_
    refine fine_ask O (n := 100000) (q := 2) (by kernel_rfl) ?_
    refine fine_ask O (n := 100000) (q := 6) (by kernel_rfl) ?_
    refine fine_ask O (n := 100000) (q := 11) (by kernel_rfl) ?_
    refine fine_ask O (n := 100000) (q := 2) (by kernel_rfl) ?_
    refine fine_ask O (n := 100000) (q := 2) (by kernel_rfl) ?_
    refine fine_call O (n := 100000) (n' := 100000) (q := 0) (fun b c => by cases b <;> cases c <;> kernel_rfl) ?_
    refine fine_ask O (n := 100000) (q := 7) (by kernel_rfl) ?_
    refine fine_ask O (n := 100000) (q := 2) (by kernel_rfl) ?_
    refine fine_ask O (n := 100000) (q := 50) (by kernel_rfl) ?_
    refine fine_ask O (n := 100000) (q := 6) (by kernel_rfl) ?_
    refine fine_ask O (n := 100000) (q := 2) (by kernel_rfl) ?_
    refine fine_tok O (n := 100000) (q := 1000) (by kernel_rfl) (by kernel_rfl) (fun _ => by kernel_rfl) (fun _ _ => by kernel_rfl) ?_
    intro u tk
    exact fine_true (by kernel_rfl) hR
  · intro P t m p D O hR
    refine fine_go O (n := 100000) (q := 4) ?_
    refine fine_ask O (n := 100000) (q := 2) (by kernel_rfl) ?_
    refine fine_ask O (n := 100000) (q := 6) (by kernel_rfl) ?_
    refine fine_ask O (n := 100000) (q := 11) (by kernel_rfl) ?_
    refine fine_ask O (n := 100000) (q := 2) (by kernel_rfl) ?_
    refine fine_ask O (n := 100000) (q := 2) (by kernel_rfl) ?_
    refine fine_call O (n := 100000) (n' := 100000) (q := 0) (fun b c => by cases b <;> cases c <;> kernel_rfl) ?_
    refine fine_ask O (n := 100000) (q := 7) (by kernel_rfl) ?_
    refine fine_ask O (n := 100000) (q := 2) (by kernel_rfl) ?_
    refine fine_ask O (n := 100000) (q := 50) (by kernel_rfl) ?_
    refine fine_ask O (n := 100000) (q := 6) (by kernel_rfl) ?_
    refine fine_ask O (n := 100000) (q := 2) (by kernel_rfl) ?_
    refine fine_tok O (n := 100000) (q := 1000) (by kernel_rfl) (by kernel_rfl) (fun _ => by kernel_rfl) (fun _ _ => by kernel_rfl) ?_
    intro u tk
    exact fine_true (by kernel_rfl) hR
  · intro P t m p D O hR
    refine fine_go O (n := 100000) (q := 4) ?_
    refine fine_ask O (n := 100000) (q := 2) (by kernel_rfl) ?_
    refine fine_ask O (n := 100000) (q := 6) (by kernel_rfl) ?_
    refine fine_ask O (n := 100000) (q := 11) (by kernel_rfl) ?_
    refine fine_ask O (n := 100000) (q := 2) (by kernel_rfl) ?_
    refine fine_ask O (n := 100000) (q := 2) (by kernel_rfl) ?_
    refine fine_call O (n := 100000) (n' := 100000) (q := 0) (fun b c => by cases b <;> cases c <;> kernel_rfl) ?_
    refine fine_ask O (n := 100000) (q := 7) (by kernel_rfl) ?_
    refine fine_ask O (n := 100000) (q := 2) (by kernel_rfl) ?_
    refine fine_ask O (n := 100000) (q := 50) (by kernel_rfl) ?_
    refine fine_ask O (n := 100000) (q := 6) (by kernel_rfl) ?_
    refine fine_ask O (n := 100000) (q := 2) (by kernel_rfl) ?_
    refine fine_tok O (n := 100000) (q := 1000) (by kernel_rfl) (by kernel_rfl) (fun _ => by kernel_rfl) (fun _ _ => by kernel_rfl) ?_
    intro u tk
    exact fine_true (by kernel_rfl) hR
  · intro P t m p D O hR
    refine fine_go O (n := 100000) (q := 4) ?_
    refine fine_ask O (n := 100000) (q := 2) (by kernel_rfl) ?_
    refine fine_ask O (n := 100000) (q := 6) (by kernel_rfl) ?_
    refine fine_ask O (n := 100000) (q := 11) (by kernel_rfl) ?_
    refine fine_ask O (n := 100000) (q := 2) (by kernel_rfl) ?_
    refine fine_ask O (n := 100000) (q := 2) (by kernel_rfl) ?_
    refine fine_call O (n := 100000) (n' := 100000) (q := 0) (fun b c => by cases b <;> cases c <;> kernel_rfl) ?_
    refine fine_ask O (n := 100000) (q := 7) (by kernel_rfl) ?_
    refine fine_ask O (n := 100000) (q := 2) (by kernel_rfl) ?_
    refine fine_ask O (n := 100000) (q := 50) (by kernel_rfl) ?_
    refine fine_ask O (n := 100000) (q := 6) (by kernel_rfl) ?_
    refine fine_ask O (n := 100000) (q := 2) (by kernel_rfl) ?_
    refine fine_tok O (n := 100000) (q := 1000) (by kernel_rfl) (by kernel_rfl) (fun _ => by kernel_rfl) (fun _ _ => by kernel_rfl) ?_
    intro u tk
    exact fine_true (by kernel_rfl) hR
end Mine

namespace Mine
theorem g18 : RunOk 1 ⟨#[49, 50, 51, 76, 76]⟩ ∧
  RunOk 1 ⟨#[49, 50, 76, 76]⟩ ∧
  RunOk 1 ⟨#[49, 76, 76]⟩ ∧
  RunOk 1 ⟨#[49, 120, 76]⟩ ∧
  RunOk 1 ⟨#[49, 120, 76, 76]⟩ ∧
  RunOk 1 ⟨#[55, 76, 76]⟩ ∧
  RunOk 1 ⟨#[76, 76]⟩ ∧
  RunOk 1 ⟨#[120, 76]⟩ ∧
  RunOk 1 ⟨#[120, 76, 76]⟩ ∧
  RunOk 1 ⟨#[1635]⟩ := by
  refine ⟨?_, ?_, ?_, ?_, ?_, ?_, ?_, ?_, ?_, ?_⟩
  · intro P t m p D O hR
    refine fine_go O (n := 100000) (q := 4) ?_
    refine fine_ask O (n := 100000) (q := 2) (by kernel_rfl) ?_
    refine fine_ask O (n := 100000) (q := 6) (by kernel_rfl) ?_
    refine fine_ask O (n := 100000) (q := 11) (by kernel_rfl) ?_
    refine fine_ask O (n := 100000) (q := 2) (by kernel_rfl) ?_
    refine fine_ask O (n := 100000) (q := 2) (by kernel_rfl) ?_
    refine fine_call O (n := 100000) (n' := 100000) (q := 0) (fun b c => by cases b <;> cases c <;> kernel_rfl) ?_
    refine fine_ask O (n := 100000) (q := 7) (by kernel_rfl) ?_
    refine fine_ask O (n := 100000) (q := 2) (by kernel_rfl) ?_
    refine fine_ask O (n := 100000) (q := 50) (by kernel_rfl) ?_
    refine fine_ask O (n := 100000) (q := 6) (by kernel_rfl) ?_
    refine fine_ask O (n := 100000) (q := 2) (by kernel_rfl) ?_
    refine fine_tok O (n := 100000) (q := 1000) (by kernel_rfl) (by kernel_rfl) (fun _ => by kernel_rfl) (fun _ _ => by kernel_rfl) ?_
    intro u tk
    exact fine_true (by kernel_rfl) hR
  · intro P t m p D O hR
    refine fine_go O (n := 100000) (q := 4) ?_
    refine fine_ask O (n := 100000) (q := 2) (by kernel_rfl) ?_
    refine fine_ask O (n := 100000) (q := 6) (by kernel_rfl) ?_
    refine fine_ask O (n := 100000) (q := 11) (by kernel_rfl) ?_
    refine fine_ask O (n := 100000) (q := 2) (by kernel_rfl) ?_
    refine fine_ask O (n := 100000) (q := 2) (by kernel_rfl) ?_
    refine fine_call O (n := 100000) (n' := 100000) (q := 0) (fun b c => by cases b <;> cases c <;> kernel_rfl) ?_
    refine fine_ask O (n := 100000) (q := 7) (by kernel_rfl) ?_
    refine fine_ask O (n := 100000) (q := 2) (by kernel_rfl) ?_
    refine fine_ask O (n := 100000) (q := 50) (by kernel_rfl) ?_
    refine fine_ask O (n := 100000) (q := 6) (by kernel_rfl) ?_
    refine fine_ask O (n := 100000) (q := 2) (by kernel_rfl) ?_
    refine fine_tok O (n := 100000) (q := 1000) (by kernel_rfl) (by kernel_rfl) (fun _ => by kernel_rfl) (fun _ _ => by kernel_rfl) ?_
    intro u tk
    exact fine_true (by kernel_rfl) hR
  · intro P t m p D O hR
    refine fine_go O (n := 100000) (q := 4) ?_
    refine fine_ask O (n := 100000) (q := 2) (by kernel_rfl) ?_
    refine fine_ask O (n := 100000) (q := 6) (by kernel_rfl) ?_
    refine fine_ask O (n := 100000) (q := 11) (by kernel_rfl) ?_
    refine fine_ask O (n := 100000) (q := 2) (by kernel_rfl) ?_
    refine fine_ask O (n := 100000) (q := 2) (by kernel_rfl) ?_
    refine fine_call O (n := 100000) (n' := 100000) (q := 0) (fun b c => by cases b <;> cases c <;> kernel_rfl) ?_
    refine fine_ask O (n := 100000) (q := 7) (by kernel_rfl) ?_
    refine fine_ask O (n := 100000) (q := 2) (by kernel_rfl) ?_
    refine fine_ask O (n := 100000) (q := 50) (by kernel_rfl) ?_
    refine fine_ask O (n := 100000) (q := 6) (by kernel_rfl) ?_
    refine fine_ask O (n := 100000) (q := 2) (by kernel_rfl) ?_
    refine fine_tok O (n := 100000) (q := 1000) (by kernel_rfl) (by kernel_rfl) (fun _ => by kernel_rfl) (fun _ _ => by kernel_rfl) ?_
    intro u tk
    exact fine_true (by kernel_rfl) hR
  · intro P t m p D O hR
    refine fine_go O (n := 100000) (q := 4) ?_
    refine fine_ask O (n := 100000) (q := 2) (by kernel_rfl) ?_
    refine fine_ask O (n := 100000) (q := 6) (by kernel_rfl) ?_
    refine fine_ask O (n := 100000) (q := 11) (by kernel_rfl) ?_
    refine fine_ask O (n := 100000) (q := 2) (by kernel_rfl) ?_
    refine fine_ask O (n := 100000) (q := 2) (by kernel_rfl) ?_
    refine fine_call O (n := 100000) (n' := 100000) (q := 0) (fun b c => by cases b <;> cases c <;> kernel_rfl) ?_
    refine fine_ask O (n := 100000) (q := 7) (by kernel_rfl) ?_
    refine fine_ask O (n := 100000) (q := 2) (by kernel_rfl) ?_
    refine fine_ask O (n := 100000) (q := 50) (by kernel_rfl) ?_
    refine fine_ask O (n := 100000) (q := 6) (by kernel_rfl) ?_
    refine fine_ask O (n := 100000) (q := 2) (by kernel_rfl) ?_
    refine fine_tok O (n := 100000) (q := 1000) (by kernel_rfl) (by kernel_rfl) (fun _ => by kernel_rfl) (fun _ _ => by kernel_rfl) ?_
    intro u tk
    exact fine_true (by kernel_rfl) hR
  · intro P t m p D O hR
    refine fine_go O (n := 100000) (q := 4) ?_
    refine fine_ask O (n := 100000) (q := 2) (by kernel_rfl) ?_
    refine fine_ask O (n := 100000) (q := 6) (by kernel_rfl) ?_
    refine fine_ask O (n := 100000) (q := 11) (by kernel_rfl) ?_
    refine fine_ask O (n := 100000) (q := 2) (by kernel_rfl) ?_
    refine fine_ask O (n := 100000) (q := 2) (by kernel_rfl) ?_
    refine fine_call O (n := 100000) (n' := 100000) (q := 0) (fun b c => by cases b <;> cases c <;> kernel_rfl) ?_
    refine fine_ask O (n := 100000) (q := 7) (by kernel_rfl) ?_
    refine fine_ask O (n := 100000) (q := 2) (by kernel_rfl) ?_
    refine fine_ask O (n := 100000) (q := 50) (by kernel_rfl) ?_
    refine fine_ask O (n := 100000) (q := 6) (by kernel_rfl) ?_
    refine fine_ask O (n := 100000) (q := 2) (by kernel_rfl) ?_
    refine fine_tok O (n := 100000) (q := 1000) (by kernel_rfl) (by kernel_rfl) (fun _ => by kernel_rfl) (fun _ _ => by kernel_rfl) ?_
    intro u tk
    exact fine_true (by kernel_rfl) hR
  · intro P t m p D O hR
    refine fine_go O (n := 100000) (q := 4) ?_
    refine fine_ask O (n := 100000) (q := 2) (by kernel_rfl) ?_
    refine fine_ask O (n := 100000) (q := 6) (by kernel_rfl) ?_
    refine fine_ask O (n := 100000) (q := 11) (by kernel_rfl) ?_
    refine fine_ask O (n := 100000) (q := 2) (by kernel_rfl) ?_
    refine fine_ask O (n := 100000) (q := 2) (by kernel_rfl) ?_
    refine fine_call O (n := 100000) (n' := 100000) (q := 0) (fun b c => by cases b <;> cases c <;> kernel_rfl) ?_
    refine fine_ask O (n := 100000) (q := 7) (by kernel_rfl) ?_
    refine fine_ask O (n := 100000) (q := 2) (by kernel_rfl) ?_
    refine fine_ask O (n := 100000) (q := 50) (by kernel_rfl) ?_
    refine fine_ask O (n := 100000) (q := 6) (by kernel_rfl) ?_
    refine fine_ask O (n := 100000) (q := 2) (by kernel_rfl) ?_
    refine fine_tok O (n := 100000) (q := 1000) (by kernel_rfl) (by kernel_rfl) (fun _ => by kernel_rfl) (fun _ _ => by kernel_rfl) ?_
    intro u tk
    exact fine_true (by kernel_rfl) hR
  · intro P t m p D O hR
    refine fine_go O (n := 100000) (q := 4) ?_
    refine fine_ask O (n := 100000) (q := 2) (by kernel_rfl) ?_
    refine fine_ask O (n := 100000) (q := 6) (by kernel_rfl) ?_
    refine fine_ask O (n := 100000) (q := 11) (by kernel_rfl) ?_
    refine fine_ask O (n := 100000) (q := 2) (by kernel_rfl) ?_
    refine fine_ask O (n := 100000) (q := 2) (by kernel_rfl) ?_
    refine fine_call O (n := 100000) (n' := 100000) (q := 0) (fun b c => by cases b <;> cases c <;> kernel_rfl) ?_
    refine fine_ask O (n := 100000) (q := 7) (by kernel_rfl) ?_
    refine fine_ask O (n := 100000) (q := 2) (by kernel_rfl) ?_
    refine fine_ask O (n := 100000) (q := 50) (by kernel_rfl) ?_
    refine fine_ask O (n := 100000) (q := 6) (by kernel_rfl) ?_
    refine fine_ask O (n := 100000) (q := 2) (by kernel_rfl) ?_
    refine fine_tok O (n := 100000) (q := 1000) (by kernel_rfl) (by kernel_rfl) (fun _ => by kernel_rfl) (fun _ _ => by kernel_rfl) ?_
    intro u tk
    exact fine_true (by kernel_rfl) hR
  · intro P t m p D O hR
    refine fine_go O (n := 100000) (q := 4) ?_
    refine fine_ask O (n := 100000) (q := 2) (by kernel_rfl) ?_
    refine fine_ask O (n := 100000) (q := 6) (by kernel_rfl) ?_
    refine fine_ask O (n := 100000) (q := 11) (by kernel_rfl) ?_
    refine fine_ask O (n := 100000) (q := 2) (by kernel_rfl) ?_
    refine fine_ask O (n := 100000) (q := 2) (by kernel_rfl) ?_
    refine fine_call O (n := 100000) (n' := 100000) (q := 0) (fun b c => by cases b <;> cases c <;> kernel_rfl) ?_
    refine fine_ask O (n := 100000) (q := 7) (by kernel_rfl) ?_
    refine fine_ask O (n := 100000) (q := 2) (by kernel_rfl) ?_
    refine fine_ask O (n := 100000) (q := 50) (by kernel_rfl) ?_
    refine fine_ask O (n := 100000) (q := 6) (by kernel_rfl) ?_
    refine fine_ask O (n := 100000) (q := 2) (by kernel_rfl) ?_
    refine fine_tok O (n := 100000) (q := 1000) (by kernel_rfl) (by kernel_rfl) (fun _ => by kernel_rfl) (fun _ _ => by kernel_rfl) ?_
    intro u tk
    exact fine_true (by kernel_rfl) hR
  · intro P t m p D O hR
    refine fine_go O (n := 100000) (q := 4) ?_
    refine fine_ask O (n := 100000) (q := 2) (by kernel_rfl) ?_
    refine fine_ask O (n := 100000) (q := 6) (by kernel_rfl) ?_
    refine fine_ask O (n := 100000) (q := 11) (by kernel_rfl) ?_
    refine fine_ask O (n := 100000) (q := 2) (by kernel_rfl) ?_
    refine fine_ask O (n := 100000) (q := 2) (by kernel_rfl) ?_
    refine fine_call O (n := 100000) (n' := 100000) (q := 0) (fun b c => by cases b <;> cases c <;> kernel_rfl) ?_
    refine fine_ask O (n := 100000) (q := 7) (by kernel_rfl) ?_
    refine fine_ask O (n := 100000) (q := 2) (by kernel_rfl) ?_
    refine fine_ask O (n := 100000) (q := 50) (by kernel_rfl) ?_
    refine fine_ask O (n := 100000) (q := 6) (by kernel_rfl) ?_
    refine fine_ask O (n := 100000) (q := 2) (by kernel_rfl) ?_
    refine fine_tok O (n := 100000) (q := 1000) (by kernel_rfl) (by kernel_rfl) (fun _ => by kernel_rfl) (fun _ _ => by kernel_rfl) ?_
    intro u tk
    exact fine_true (by kernel_rfl) hR
  · intro P t m p D O hR
    refine fine_go O (n := 100000) (q := 4) ?_
    refine fine_ask O (n := 100000) (q := 2) (by kernel_rfl) ?_
    refine fine_ask O (n := 100000) (q := 6) (by kernel_rfl) ?_
    refine fine_ask O (n := 100000) (q := 7) (by kernel_rfl) ?_
    refine fine_ask O (n := 100000) (q := 2) (by kernel_rfl) ?_
    refine fine_ask O (n := 100000) (q := 2) (by kernel_rfl) ?_
    refine fine_call O (n := 100000) (n' := 100000) (q := 0) (fun b c => by cases b <;> cases c <;> kernel_rfl) ?_
    refine fine_ask O (n := 100000) (q := 7) (by kernel_rfl) ?_
    refine fine_ask O (n := 100000) (q := 2) (by kernel_rfl) ?_
    refine fine_ask O (n := 100000) (q := 48) (by kernel_rfl) ?_
    refine fine_ask O (n := 100000) (q := 2) (by kernel_rfl) ?_
    refine fine_ask O (n := 100000) (q := 2) (by kernel_rfl) ?_
    refine fine_tok O (n := 100000) (q := 1000) (by kernel_rfl) (by kernel_rfl) (fun _ => by kernel_rfl) (fun _ _ => by kernel_rfl) ?_
    intro u tk
    exact fine_true (by kernel_rfl) hR
end Mine

namespace Mine
theorem g19 : RunOk 1 ⟨#[1635, 108]⟩ ∧
  RunOk 1 ⟨#[1635, 120]⟩ ∧
  RunOk 1 ⟨#[43, 51]⟩ ∧
  RunOk 1 ⟨#[43, 51, 108]⟩ ∧
  RunOk 1 ⟨#[43, 51, 120]⟩ ∧
  RunOk 1 ⟨#[45, 49]⟩ ∧
  RunOk 1 ⟨#[45, 49, 108]⟩ ∧
  RunOk 1 ⟨#[45, 49, 120]⟩ ∧
  RunOk 1 ⟨#[48, 53, 108]⟩ ∧
  RunOk 1 ⟨#[48, 53, 120]⟩ := by
  refine ⟨?_, ?_, ?_, ?_, ?_, ?_, ?_, ?_, ?_, ?_⟩
  · intro P t m p D O hR
    refine fine_go O (n := 100000) (q := 4) ?_
    refine fine_ask O (n := 100000) (q := 2) (by kernel_rfl) ?_
    refine fine_ask O (n := 100000) (q := 6) (by kernel_rfl) ?_
    refine fine_ask O (n := 100000) (q := 7) (by kernel_rfl) ?_
    refine fine_ask O (n := 100000) (q := 2) (by kernel_rfl) ?_
    refine fine_ask O (n := 100000) (q := 2) (by kernel_rfl) ?_
    refine fine_call O (n := 100000) (n' := 100000) (q := 0) (fun b c => by cases b <;> cases c <;> kernel_rfl) ?_
    refine fine_ask O (n := 100000) (q := 7) (by kernel_rfl) ?_
    refine fine_ask O (n := 100000) (q := 2) (by kernel_rfl) ?_
    refine fine_ask O (n := 100000) (q := 48) (by kernel_rfl) ?_
    refine fine_ask O (n := 100000) (q := 2) (by kernel_rfl) ?_
    refine fine_ask O (n := 100000) (q := 2) (by kernel_rfl) ?_
    refine fine_tok O (n := 100000) (q := 1000) (by kernel_rfl) (by kernel_rfl) (fun _ => by kernel_rfl) (fun _ _ => by kernel_rfl) ?_
    intro u tk
    exact fine_true (by kernel_rfl) hR
  · intro P t m p D O hR
    refine fine_go O (n := 100000) (q := 4) ?_
    refine fine_ask O (n := 100000) (q := 2) (by kernel_rfl) ?_
    refine fine_ask O (n := 100000) (q := 6) (by kernel_rfl) ?_
    refine fine_ask O (n := 100000) (q := 7) (by kernel_rfl) ?_
    refine fine_ask O (n := 100000) (q := 2) (by kernel_rfl) ?_
    refine fine_ask O (n := 100000) (q := 2) (by kernel_rfl) ?_
    refine fine_call O (n := 100000) (n' := 100000) (q := 0) (fun b c => by cases b <;> cases c <;> kernel_rfl) ?_
    refine fine_ask O (n := 100000) (q := 7) (by kernel_rfl) ?_
    refine fine_ask O (n := 100000) (q := 2) (by kernel_rfl) ?_
    refine fine_ask O (n := 100000) (q := 48) (by kernel_rfl) ?_
    refine fine_ask O (n := 100000) (q := 2) (by kernel_rfl) ?_
    refine fine_ask O (n := 100000) (q := 2) (by kernel_rfl) ?_
    refine fine_tok O (n := 100000) (q := 1000) (by kernel_rfl) (by kernel_rfl) (fun _ => by kernel_rfl) (fun _ _ => by kernel_rfl) ?_
    intro u tk
    exact fine_true (by kernel_rfl) hR
  · intro P t m p D O hR
    refine fine_go O (n := 100000) (q := 4) ?_
    refine fine_ask O (n := 100000) (q := 2) (by kernel_rfl) ?_
    refine fine_ask O (n := 100000) (q := 6) (by kernel_rfl) ?_
    refine fine_ask O (n := 100000) (q := 7) (by kernel_rfl) ?_
    refine fine_ask O (n := 100000) (q := 2) (by kernel_rfl) ?_
    refine fine_ask O (n := 100000) (q := 2) (by kernel_rfl) ?_
    refine fine_call O (n := 100000) (n' := 100000) (q := 0) (fun b c => by cases b <;> cases c <;> kernel_rfl) ?_
    refine fine_ask O (n := 100000) (q := 7) (by kernel_rfl) ?_
    refine fine_ask O (n := 100000) (q := 2) (by kernel_rfl) ?_
    refine fine_ask O (n := 100000) (q := 50) (by kernel_rfl) ?_
    refine fine_ask O (n := 100000) (q := 2) (by kernel_rfl) ?_
    refine fine_ask O (n := 100000) (q := 2) (by kernel_rfl) ?_
    refine fine_tok O (n := 100000) (q := 1000) (by kernel_rfl) (by kernel_rfl) (fun _ => by kernel_rfl) (fun _ _ => by kernel_rfl) ?_
    intro u tk
    exact fine_true (by kernel_rfl) hR
  · intro P t m p D O hR
    refine fine_go O (n := 100000) (q := 4) ?_
    refine fine_ask O (n := 100000) (q := 2) (by kernel_rfl) ?_
    refine fine_ask O (n := 100000) (q := 6) (by kernel_rfl) ?_
    refine fine_ask O (n := 100000) (q := 7) (by kernel_rfl) ?_
    refine fine_ask O (n := 100000) (q := 2) (by kernel_rfl) ?_
    refine fine_ask O (n := 100000) (q := 2) (by kernel_rfl) ?_
    refine fine_call O (n := 100000) (n' := 100000) (q := 0) (fun b c => by cases b <;> cases c <;> kernel_rfl) ?_
    refine fine_ask O (n := 100000) (q := 7) (by kernel_rfl) ?_
    refine fine_ask O (n := 100000) (q := 2) (by kernel_rfl) ?_
    refine fine_ask O (n := 100000) (q := 50) (by kernel_rfl) ?_
    refine fine_ask O (n := 100000) (q := 2) (by kernel_rfl) ?_
    refine fine_ask O (n := 100000) (q := 2) (by kernel_rfl) ?_
    refine fine_tok O (n := 100000) (q := 1000) (by kernel_rfl) (by kernel_rfl) (fun _ => by kernel_rfl) (fun _ _ => by kernel_rfl) ?_
    intro u tk
    exact fine_true (by kernel_rfl) hR
  · intro P t m p D O hR
    refine fine_go O (n := 100000) (q := 4) ?_
    refine fine_ask O (n := 100000) (q := 2) (by kernel_rfl) ?_
    refine fine_ask O (n := 100000) (q := 6) (by kernel_rfl) ?_
    refine fine_ask O (n := 100000) (q := 7) (by kernel_rfl) ?_
    refine fine_ask O (n := 100000) (q := 2) (by kernel_rfl) ?_
    refine fine_ask O (n := 100000) (q := 2) (by kernel_rfl) ?_
    refine fine_call O (n := 100000) (n' := 100000) (q := 0) (fun b c => by cases b <;> cases c <;> kernel_rfl) ?_
    refine fine_ask O (n := 100000) (q := 7) (by kernel_rfl) ?_
    refine fine_ask O (n := 100000) (q := 2) (by kernel_rfl) ?_
    refine fine_ask O (n := 100000) (q := 50) (by kernel_rfl) ?_
    refine fine_ask O (n := 100000) (q := 2) (by kernel_rfl) ?_
    refine fine_ask O (n := 100000) (q := 2) (by kernel_rfl) ?_
    refine fine_tok O (n := 100000) (q := 1000) (by kernel_rfl) (by kernel_rfl) (fun _ => by kernel_rfl) (fun _ _ => by kernel_rfl) ?_
    intro u tk
    exact fine_true (by kernel_rfl) hR
  · intro P t m p D O hR
    refine fine_go O (n := 100000) (q := 4) ?_
    refine fine_ask O (n := 100000) (q := 2) (by kernel_rfl) ?_
    refine fine_ask O (n := 100000) (q := 6) (by kernel_rfl) ?_
    refine fine_ask O (n := 100000) (q := 7) (by kernel_rfl) ?_
    refine fine_ask O (n := 100000) (q := 2) (by kernel_rfl) ?_
    refine fine_ask O (n := 100000) (q := 2) (by kernel_rfl) ?_
    refine fine_call O (n := 100000) (n' := 100000) (q := 0) (fun b c => by cases b <;> cases c <;> kernel_rfl) ?_
    refine fine_ask O (n := 100000) (q := 7) (by kernel_rfl) ?_
    refine fine_ask O (n := 100000) (q := 2) (by kernel_rfl) ?_
    refine fine_ask O (n := 100000) (q := 50) (by kernel_rfl) ?_
    refine fine_ask O (n := 100000) (q := 2) (by kernel_rfl) ?_
    refine fine_ask O (n := 100000) (q := 2) (by kernel_rfl) ?_
    refine fine_tok O (n := 100000) (q := 1000) (by kernel_rfl) (by kernel_rfl) (fun _ => by kernel_rfl) (fun _ _ => by kernel_rfl) ?_
    intro u tk
    exact fine_true (by kernel_rfl) hR
  · intro P t m p D O hR
    refine fine_go O (n := 100000) (q := 4) ?_
    refine fine_ask O (n := 100000) (q := 2) (by kernel_rfl) ?_
    refine fine_ask O (n := 100000) (q := 6) (by kernel_rfl) ?_
    refine fine_ask O (n := 100000) (q := 7) (by kernel_rfl) ?_
    refine fine_ask O (n := 100000) (q := 2) (by kernel_rfl) ?_
    refine fine_ask O (n := 100000) (q := 2) (by kernel_rfl) ?_
    refine fine_call O (n := 100000) (n' := 100000) (q := 0) (fun b c => by cases b <;> cases c <;> kernel_rfl) ?_
    refine fine_ask O (n := 100000) (q := 7) (by kernel_rfl) ?_
    refine fine_ask O (n := 100000) (q := 2) (by kernel_rfl) ?_
    refine fine_ask O (n := 100000) (q := 50) (by kernel_rfl) ?_
    refine fine_ask O (n := 100000) (q := 2) (by kernel_rfl) ?_
    refine fine_ask O (n := 100000) (q := 2) (by kernel_rfl) ?_
    refine fine_tok O (n := 100000) (q := 1000) (by kernel_rfl) (by kernel_rfl) (fun _ => by kernel_rfl) (fun _ _ => by kernel_rfl) ?_
    intro u tk
    exact fine_true (by kernel_rfl) hR
  · intro P t m p D O hR
    refine fine_go O (n := 100000) (q := 4) ?_
    refine fine_ask O (n := 100000) (q := 2) (by kernel_rfl) ?_
    refine fine_ask O (n := 100000) (q := 6) (by kernel_rfl) ?_
    refine fine_ask O (n := 100000) (q := 7) (by kernel_rfl) ?_
    refine fine_ask O (n := 100000) (q := 2) (by kernel_rfl) ?_
    refine fine_ask O (n := 100000) (q := 2) (by kernel_rfl) ?_
    refine fine_call O (n := 100000) (n' := 100000) (q := 0) (fun b c => by cases b <;> cases c <;> kernel_rfl) ?_
    refine fine_ask O (n := 100000) (q := 7) (by kernel_rfl) ?_
    refine fine_ask O (n := 100000) (q := 2) (by kernel_rfl) ?_
    refine fine_ask O (n := 100000) (q := 50) (by kernel_rfl) ?_
    refine fine_ask O (n := 100000) (q := 2) (by kernel_rfl) ?_
    refine fine_ask O (n := 100000) (q := 2) (by kernel_rfl) ?_
    refine fine_tok O (n := 100000) (q := 1000) (by kernel_rfl) (by kernel_rfl) (fun _ => by kernel_rfl) (fun _ _ => by kernel_rfl) ?_
    intro u tk
    exact fine_true (by kernel_rfl) hR
  · intro P t m p D O hR
    refine fine_go O (n := 100000) (q := 4) ?_
    refine fine_ask O (n := 100000) (q := 2) (by kernel_rfl) ?_
    refine fine_ask O (n := 100000) (q := 6) (by kernel_rfl) ?_
    refine fine_ask O (n := 100000) (q := 7) (by kernel_rfl) ?_
    refine fine_ask O (n := 100000) (q := 2) (by kernel_rfl) ?_
    refine fine_ask O (n := 100000) (q := 2) (by kernel_rfl) ?_
    refine fine_call O (n := 100000) (n' := 100000) (q := 0) (fun b c => by cases b <;> cases c <;> kernel_rfl) ?_
    refine fine_ask O (n := 100000) (q := 7) (by kernel_rfl) ?_
    refine fine_ask O (n := 100000) (q := 2) (by kernel_rfl) ?_
    refine fine_ask O (n := 100000) (q := 50) (by kernel_rfl) ?_
    refine fine_ask O (n := 100000) (q := 2) (by kernel_rfl) ?_
    refine fine_ask O (n := 100000) (q := 2) (by kernel_rfl) ?_
    refine fine_tok O (n := 100000) (q := 1000) (by kernel_rfl) (by kernel_rfl) (fun _ => by kernel_rfl) (fun _ _ => by kernel_rfl) ?_
    intro u tk
    exact fine_true (by kernel_rfl) hR
  · intro P t m p D O hR
    refine fine_go O (n := 100000) (q := 4) ?_
    refine fine_ask O (n := 100000) (q := 2) (by kernel_rfl) ?_
    refine fine_ask O (n := 100000) (q := 6) (by kernel_rfl) ?_
    refine fine_ask O (n := 100000) (q := 7) (by kernel_rfl) ?_
    refine fine_ask O (n := 100000) (q := 2) (by kernel_rfl) ?_
    refine fine_ask O (n := 100000) (q := 2) (by kernel_rfl) ?_
    refine fine_call O (n := 100000) (n' := 100000) (q := 0) (fun b c => by cases b <;> cases c <;> kernel_rfl) ?_
    refine fine_ask O (n := 100000) (q := 7) (by kernel_rfl) ?_
    refine fine_ask O (n := 100000) (q := 2) (by kernel_rfl) ?_
    refine fine_ask O (n := 100000) (q := 50) (by kernel_rfl) ?_
    refine fine_ask O (n := 100000) (q := 2) (by kernel_rfl) ?_
    refine fine_ask O (n := 100000) (q := 2) (by kernel_rfl) ?_
    refine fine_tok O (n := 100000) (q := 1000) (by kernel_rfl) (by kernel_rfl) (fun _ => by kernel_rfl) (fun _ _ => by kernel_rfl) ?_
    intro u tk
    exact fine_true (by kernel_rfl) hR
end Mine

namespace Mine
theorem g20 : RunOk 1 ⟨#[48, 108]⟩ ∧
  RunOk 1 ⟨#[48, 120]⟩ ∧
  RunOk 1 ⟨#[49, 50, 51, 108]⟩ ∧
  RunOk 1 ⟨#[49, 50, 51, 120]⟩ ∧
  RunOk 1 ⟨#[49, 50, 108]⟩ ∧
  RunOk 1 ⟨#[49, 50, 120]⟩ ∧
  RunOk 1 ⟨#[49, 108]⟩ ∧
  RunOk 1 ⟨#[49, 120]⟩ ∧
  RunOk 1 ⟨#[49, 120, 108]⟩ ∧
  RunOk 1 ⟨#[49, 120, 120]⟩ := by
  refine ⟨?_, ?_, ?_, ?_, ?_, ?_, ?_, ?_, ?_, ?_⟩
  · intro P t m p D O hR
    refine fine_go O (n := 100000) (q := 4) ?_
    refine fine_ask O (n := 100000) (q := 2) (by kernel_rfl) ?_
    refine fine_ask O (n := 100000) (q := 6) (by kernel_rfl) ?_
    refine fine_ask O (n := 100000) (q := 7) (by kernel_rfl) ?_
    refine fine_ask O (n := 100000) (q := 2) (by kernel_rfl) ?_
    refine fine_ask O (n := 100000) (q := 2) (by kernel_rfl) ?_
    refine fine_call O (n := 100000) (n' := 100000) (q := 0) (fun b c => by cases b <;> cases c <;> kernel_rfl) ?_
    refine fine_ask O (n := 100000) (q := 7) (by kernel_rfl) ?_
    refine fine_ask O (n := 100000) (q := 2) (by kernel_rfl) ?_
    refine fine_ask O (n := 100000) (q := 50) (by kernel_rfl) ?_
    refine fine_ask O (n := 100000) (q := 2) (by kernel_rfl) ?_
    refine fine_ask O (n := 100000) (q := 2) (by kernel_rfl) ?_
    refine fine_tok O (n := 100000) (q := 1000) (by kernel_rfl) (by kernel_rfl) (fun _ => by kernel_rfl) (fun _ _ => by kernel_rfl) ?_
    intro u tk
    exact fine_true (by kernel_rfl) hR
  · intro P t m p D O hR
    refine fine_go O (n := 100000) (q := 4) ?_
    refine fine_ask O (n := 100000) (q := 2) (by kernel_rfl) ?_
    refine fine_ask O (n := 100000) (q := 6) (by kernel_rfl) ?_
    refine fine_ask O (n := 100000) (q := 7) (by kernel_rfl) ?_
    refine fine_ask O (n := 100000) (q := 2) (by kernel_rfl) ?_
    refine fine_ask O (n := 100000) (q := 2) (by kernel_rfl) ?_
    refine fine_call O (n := 100000) (n' := 100000) (q := 0) (fun b c => by cases b <;> cases c <;> kernel_rfl) ?_
    refine fine_ask O (n := 100000) (q := 7) (by kernel_rfl) ?_
    refine fine_ask O (n := 100000) (q := 2) (by kernel_rfl) ?_
    refine fine_ask O (n := 100000) (q := 50) (by kernel_rfl) ?_
    refine fine_ask O (n := 100000) (q := 2) (by kernel_rfl) ?_
    refine fine_ask O (n := 100000) (q := 2) (by kernel_rfl) ?_
    refine fine_tok O (n := 100000) (q := 1000) (by kernel_rfl) (by kernel_rfl) (fun _ => by kernel_rfl) (fun _ _ => by kernel_rfl) ?_
    intro u tk
    exact fine_true (by kernel_rfl) hR
  · intro P t m p D O hR
    refine fine_go O (n := 100000) (q := 4) ?_
    refine fine_ask O (n := 100000) (q := 2) (by kernel_rfl) ?_
    refine fine_ask O (n := 100000) (q := 6) (by kernel_rfl) ?_
    refine fine_ask O (n := 100000) (q := 7) (by kernel_rfl) ?_
    refine fine_ask O (n := 100000) (q := 2) (by kernel_rfl) ?_
    refine fine_ask O (n := 100000) (q := 2) (by kernel_rfl) ?_
    refine fine_call O (n := 100000) (n' := 100000) (q := 0) (fun b c => by cases b <;> cases c <;> kernel_rfl) ?_
    refine fine_ask O (n := 100000) (q := 7) (by kernel_rfl) ?_
    refine fine_ask O (n := 100000) (q := 2) (by kernel_rfl) ?_
    refine fine_ask O (n := 100000) (q := 50) (by kernel_rfl) ?_
    refine fine_ask O (n := 100000) (q := 2) (by kernel_rfl) ?_
    refine fine_ask O (n := 100000) (q := 2) (by kernel_rfl) ?_
    refine fine_tok O (n := 100000) (q := 1000) (by kernel_rfl) (by kernel_rfl) (fun _ => by kernel_rfl) (fun _ _ => by kernel_rfl) ?_
    intro u tk
    exact fine_true (by kernel_rfl) hR
  · intro P t m p D O hR
    refine fine_go O (n := 100000) (q := 4) ?_
    refine fine_ask O (n := 100000) (q := 2) (by kernel_rfl) ?_
    refine fine_ask O (n := 100000) (q := 6) (by kernel_rfl) ?_
    refine fine_ask O (n := 100000) (q := 7) (by kernel_rfl) ?_
    refine fine_ask O (n := 100000) (q := 2) (by kernel_rfl) ?_
    refine fine_ask O (n := 100000) (q := 2) (by kernel_rfl) ?_
    refine fine_call O (n := 100000) (n' := 100000) (q := 0) (fun b c => by cases b <;> cases c <;> kernel_rfl) ?_
    refine fine_ask O (n := 100000) (q := 7) (by kernel_rfl) ?_
    refine fine_ask O (n := 100000) (q := 2) (by kernel_rfl) ?_
    refine fine_ask O (n := 100000) (q := 50) (by kernel_rfl) ?_
    refine fine_ask O (n := 100000) (q := 2) (by kernel_rfl) ?_
    refine fine_ask O (n := 100000) (q := 2) (by kernel_rfl) ?_
    refine fine_tok O (n := 100000) (q := 1000) (by kernel_rfl) (by kernel_rfl) (fun _ => by kernel_rfl) (fun _ _ => by kernel_rfl) ?_
    intro u tk
    exact fine_true (by kernel_rfl) hR
  · intro P t m p D O hR
    refine fine_go O (n := 100000) (q := 4) ?_
    refine fine_ask O (n := 100000) (q := 2) (by kernel_rfl) ?_
    refine fine_ask O (n := 100000) (q := 6) (by kernel_rfl) ?_
    refine fine_ask O (n := 100000) (q := 7) (by kernel_rfl) ?_
    refine fine_ask O (n := 100000) (q := 2) (by kernel_rfl) ?_
    refine fine_ask O (n := 100000) (q := 2) (by kernel_rfl) ?_
    refine fine_call O (n := 100000) (n' := 100000) (q := 0) (fun b c => by cases b <;> cases c <;> kernel_rfl) ?_
    refine fine_ask O (n := 100000) (q := 7) (by kernel_rfl) ?_
    refine fine_ask O (n := 100000) (q := 2) (by kernel_rfl) ?_
    refine fine_ask O (n := 100000) (q := 50) (by kernel_rfl) ?_
    refine fine_ask O (n := 100000) (q := 2) (by kernel_rfl) ?_
    refine fine_ask O (n := 100000) (q := 2) (by kernel_rfl) ?_
    refine fine_tok O (n := 100000) (q := 1000) (by kernel_rfl) (by kernel_rfl) (fun _ => by kernel_rfl) (fun _ _ => by kernel_rfl) ?_
    intro u tk
    exact fine_true (by kernel_rfl) hR
  · intro P t m p D O hR
    refine fine_go O (n := 100000) (q := 4) ?_
    refine fine_ask O (n := 100000) (q := 2) (by kernel_rfl) ?_
    refine fine_ask O (n := 100000) (q := 6) (by kernel_rfl) ?_
    refine fine_ask O (n := 100000) (q := 7) (by kernel_rfl) ?_
    refine fine_ask O (n := 100000) (q := 2) (by kernel_rfl) ?_
    refine fine_ask O (n := 100000) (q := 2) (by kernel_rfl) ?_
    refine fine_call O (n := 100000) (n' := 100000) (q := 0) (fun b c => by cases b <;> cases c <;> kernel_rfl) ?_
    refine fine_ask O (n := 100000) (q := 7) (by kernel_rfl) ?_
    refine fine_ask O (n := 100000) (q := 2) (by kernel_rfl) ?_
    refine fine_ask O (n := 100000) (q := 50) (by kernel_rfl) ?_
    refine fine_ask O (n := 100000) (q := 2) (by kernel_rfl) ?_
    refine fine_ask O (n := 100000) (q := 2) (by kernel_rfl) ?_
    refine fine_tok O (n := 100000) (q := 1000) (by kernel_rfl) (by kernel_rfl) (fun _ => by kernel_rfl) (fun _ _ => by kernel_rfl) ?_
    intro u tk
    exact fine_true (by kernel_rfl) hR
  · intro P t m p D O hR
    refine fine_go O (n := 100000) (q := 4) ?_
    refine fine_ask O (n := 100000) (q := 2) (by kernel_rfl) ?_
    refine fine_ask O (n := 100000) (q := 6) (by kernel_rfl) ?_
    refine fine_ask O (n := 100000) (q := 7) (by kernel_rfl) ?_
    refine fine_ask O (n := 100000) (q := 2) (by kernel_rfl) ?_
    refine fine_ask O (n := 100000) (q := 2) (by kernel_rfl) ?_
    refine fine_call O (n := 100000) (n' := 100000) (q := 0) (fun b c => by cases b <;> cases c <;> kernel_rfl) ?_
    refine fine_ask O (n := 100000) (q := 7) (by kernel_rfl) ?_
    refine fine_ask O (n := 100000) (q := 2) (by kernel_rfl) ?_
    refine fine_ask O (n := 100000) (q := 50) (by kernel_rfl) ?_
    refine fine_ask O (n := 100000) (q := 2) (by kernel_rfl) ?_
    refine fine_ask O (n := 100000) (q := 2) (by kernel_rfl) ?_
    refine fine_tok O (n := 100000) (q := 1000) (by kernel_rfl) (by kernel_rfl) (fun _ => by kernel_rfl) (fun _ _ => by kernel_rfl) ?_
    intro u tk
    exact fine_true (by kernel_rfl) hR
  · intro P t m p D O hR
    refine fine_go O (n := 100000) (q := 4) ?_
    refine fine_ask O (n := 100000) (q := 2) (by kernel_rfl) ?_
    refine fine_ask O (n := 100000) (q := 6) (by kernel_rfl) ?_
    refine fine_ask O (n := 100000) (q := 7) (by kernel_rfl) ?_
    refine fine_ask O (n := 100000) (q := 2) (by kernel_rfl) ?_
    refine fine_ask O (n := 100000) (q := 2) (by kernel_rfl) ?_
    refine fine_call O (n := 100000) (n' := 100000) (q := 0) (fun b c => by cases b <;> cases c <;> kernel_rfl) ?_
    refine fine_ask O (n := 100000) (q := 7) (by kernel_rfl) ?_
    refine fine_ask O (n := 100000) (q := 2) (by kernel_rfl) ?_
    refine fine_ask O (n := 100000) (q := 50) (by kernel_rfl) ?_
    refine fine_ask O (n := 100000) (q := 2) (by kernel_rfl) ?_
    refine fine_ask O (n := 100000) (q := 2) (by kernel_rfl) ?_
    refine fine_tok O (n := 100000) (q := 1000) (by kernel_rfl) (by kernel_rfl) (fun _ => by kernel_rfl) (fun _ _ => by kernel_rfl) ?_
    intro u tk
    exact fine_true (by kernel_rfl) hR
  · intro P t m p D O hR
    refine fine_go O (n := 100000) (q := 4) ?_
    refine fine_ask O (n := 100000) (q := 2) (by kernel_rfl) ?_
    refine fine_ask O (n := 100000) (q := 6) (by kernel_rfl) ?_
    refine fine_ask O (n := 100000) (q := 7) (by kernel_rfl) ?_
    refine fine_ask O (n := 100000) (q := 2) (by kernel_rfl) ?_
    refine fine_ask O (n := 100000) (q := 2) (by kernel_rfl) ?_
    refine fine_call O (n := 100000) (n' := 100000) (q := 0) (fun b c => by cases b <;> cases c <;> kernel_rfl) ?_
    refine fine_ask O (n := 100000) (q := 7) (by kernel_rfl) ?_
    refine fine_ask O (n := 100000) (q := 2) (by kernel_rfl) ?_
    refine fine_ask O (n := 100000) (q := 50) (by kernel_rfl) ?_
    refine fine_ask O (n := 100000) (q := 2) (by kernel_rfl) ?_
    refine fine_ask O (n := 100000) (q := 2) (by kernel_rfl) ?_
    refine fine_tok O (n := 100000) (q := 1000) (by kernel_rfl) (by kernel_rfl) (fun _ => by kernel_rfl) (fun _ _ => by kernel_rfl) ?_
    intro u tk
    exact fine_true (by kernel_rfl) hR
  · intro P t m p D O hR
    refine fine_go O (n := 100000) (q := 4) ?_
    refine fine_ask O (n := 100000) (q := 2) (by kernel_rfl) ?_
    refine fine_ask O (n := 100000) (q := 6) (by kernel_rfl) ?_
    refine fine_ask O (n := 100000) (q := 7) (by kernel_rfl) ?_
    refine fine_ask O (n := 100000) (q := 2) (by kernel_rfl) ?_
    refine fine_ask O (n := 100000) (q := 2) (by kernel_rfl) ?_
    refine fine_call O (n := 100000) (n' := 100000) (q := 0) (fun b c => by cases b <;> cases c <;> kernel_rfl) ?_
    refine fine_ask O (n := 100000) (q := 7) (by kernel_rfl) ?_
    refine fine_ask O (n := 100000) (q := 2) (by kernel_rfl) ?_
    refine fine_ask O (n := 100000) (q := 50) (by kernel_rfl) ?_
    refine fine_ask O (n := 100000) (q := 2) (by kernel_rfl) ?_
    refine fine_ask O (n := 100000) (q := 2) (by kernel_rfl) ?_
    refine fine_tok O (n := 100000) (q := 1000) (by kernel_rfl) (by kernel_rfl) (fun _ => by kernel_rfl) (fun _ _ => by kernel_rfl) ?_
    intro u tk
    exact fine_true (by kernel_rfl) hR
end Mine

namespace Mine
theorem g21 : RunOk 1 ⟨#[55, 108]⟩ ∧
  RunOk 1 ⟨#[55, 120]⟩ ∧
  RunOk 1 ⟨#[108]⟩ ∧
  RunOk 1 ⟨#[120]⟩ ∧
  RunOk 1 ⟨#[120, 108]⟩ ∧
  RunOk 1 ⟨#[120, 120]⟩ ∧
  RunOk 1 ⟨#[48]⟩ ∧
  RunOk 1 ⟨#[48, 53]⟩ ∧
  RunOk 1 ⟨#[49]⟩ ∧
  RunOk 1 ⟨#[49, 50]⟩ := by
  refine ⟨?_, ?_, ?_, ?_, ?_, ?_, ?_, ?_, ?_, ?_⟩
  · intro P t m p D O hR
    refine fine_go O (n := 100000) (q := 4) ?_
    refine fine_ask O (n := 100000) (q := 2) (by kernel_rfl) ?_
    refine fine_ask O (n := 100000) (q := 6) (by kernel_rfl) ?_
    refine fine_ask O (n := 100000) (q := 7) (by kernel_rfl) ?_
    refine fine_ask O (n := 100000) (q := 2) (by kernel_rfl) ?_
    refine fine_ask O (n := 100000) (q := 2) (by kernel_rfl) ?_
    refine fine_call O (n := 100000) (n' := 100000) (q := 0) (fun b c => by cases b <;> cases c <;> kernel_rfl) ?_
    refine fine_ask O (n := 100000) (q := 7) (by kernel_rfl) ?_
    refine fine_ask O (n := 100000) (q := 2) (by kernel_rfl) ?_
    refine fine_ask O (n := 100000) (q := 50) (by kernel_rfl) ?_
    refine fine_ask O (n := 100000) (q := 2) (by kernel_rfl) ?_
    refine fine_ask O (n := 100000) (q := 2) (by kernel_rfl) ?_
    refine fine_tok O (n := 100000) (q := 1000) (by kernel_rfl) (by kernel_rfl) (fun _ => by kernel_rfl) (fun _ _ => by kernel_rfl) ?_
    intro u tk
    exact fine_true (by kernel_rfl) hR
  · intro P t m p D O hR
    refine fine_go O (n := 100000) (q := 4) ?_
    refine fine_ask O (n := 100000) (q := 2) (by kernel_rfl) ?_
    refine fine_ask O (n := 100000) (q := 6) (by kernel_rfl) ?_
    refine fine_ask O (n := 100000) (q := 7) (by kernel_rfl) ?_
    refine fine_ask O (n := 100000) (q := 2) (by kernel_rfl) ?_
    refine fine_ask O (n := 100000) (q := 2) (by kernel_rfl) ?_
    refine fine_call O (n := 100000) (n' := 100000) (q := 0) (fun b c => by cases b <;> cases c <;> kernel_rfl) ?_
    refine fine_ask O (n := 100000) (q := 7) (by kernel_rfl) ?_
    refine fine_ask O (n := 100000) (q := 2) (by kernel_rfl) ?_
    refine fine_ask O (n := 100000) (q := 50) (by kernel_rfl) ?_
    refine fine_ask O (n := 100000) (q := 2) (by kernel_rfl) ?_
    refine fine_ask O (n := 100000) (q := 2) (by kernel_rfl) ?_
    refine fine_tok O (n := 100000) (q := 1000) (by kernel_rfl) (by kernel_rfl) (fun _ => by kernel_rfl) (fun _ _ => by kernel_rfl) ?_
    intro u tk
    exact fine_true (by kernel_rfl) hR
  · intro P t m p D O hR
    refine fine_go O (n := 100000) (q := 4) ?_
    refine fine_ask O (n := 100000) (q := 2) (by kernel_rfl) ?_
    refine fine_ask O (n := 100000) (q := 6) (by kernel_rfl) ?_
    refine fine_ask O (n := 100000) (q := 7) (by kernel_rfl) ?_
    refine fine_ask O (n := 100000) (q := 2) (by kernel_rfl) ?_
    refine fine_ask O (n := 100000) (q := 2) (by kernel_rfl) ?_
    refine fine_call O (n := 100000) (n' := 100000) (q := 0) (fun b c => by cases b <;> cases c <;> kernel_rfl) ?_
    refine fine_ask O (n := 100000) (q := 7) (by kernel_rfl) ?_
    refine fine_ask O (n := 100000) (q := 2) (by kernel_rfl) ?_
    refine fine_ask O (n := 100000) (q := 50) (by kernel_rfl) ?_
    refine fine_ask O (n := 100000) (q := 2) (by kernel_rfl) ?_
    refine fine_ask O (n := 100000) (q := 2) (by kernel_rfl) ?_
    refine fine_tok O (n := 100000) (q := 1000) (by kernel_rfl) (by kernel_rfl) (fun _ => by kernel_rfl) (fun _ _ => by kernel_rfl) ?_
    intro u tk
    exact fine_true (by kernel_rfl) hR
  · intro P t m p D O hR
    refine fine_go O (n := 100000) (q := 4) ?_
    refine fine_ask O (n := 100000) (q := 2) (by kernel_rfl) ?_
    refine fine_ask O (n := 100000) (q := 6) (by kernel_rfl) ?_
    refine fine_ask O (n := 100000) (q := 7) (by kernel_rfl) ?_
    refine fine_ask O (n := 100000) (q := 2) (by kernel_rfl) ?_
    refine fine_ask O (n := 100000) (q := 2) (by kernel_rfl) ?_
    refine fine_call O (n := 100000) (n' := 100000) (q := 0) (fun b c => by cases b <;> cases c <;> kernel_rfl) ?_
    refine fine_ask O (n := 100000) (q := 7) (by kernel_rfl) ?_
    refine fine_ask O (n := 100000) (q := 2) (by kernel_rfl) ?_
    refine fine_ask O (n := 100000) (q := 50) (by kernel_rfl) ?_
    refine fine_ask O (n := 100000) (q := 2) (by kernel_rfl) ?_
    refine fine_ask O (n := 100000) (q := 2) (by kernel_rfl) ?_
    refine fine_tok O (n := 100000) (q := 1000) (by kernel_rfl) (by kernel_rfl) (fun _ => by kernel_rfl) (fun _ _ => by kernel_rfl) ?_
    intro u tk
    exact fine_true (by kernel_rfl) hR
  · intro P t m p D O hR
    refine fine_go O (n := 100000) (q := 4) ?_
    refine fine_ask O (n := 100000) (q := 2) (by kernel_rfl) ?_
    refine fine_ask O (n := 100000) (q := 6) (by kernel_rfl) ?_
    refine fine_ask O (n := 100000) (q := 7) (by kernel_rfl) ?_
    refine fine_ask O (n := 100000) (q := 2) (by kernel_rfl) ?_
    refine fine_ask O (n := 100000) (q := 2) (by kernel_rfl) ?_
    refine fine_call O (n := 100000) (n' := 100000) (q := 0) (fun b c => by cases b <;> cases c <;> kernel_rfl) ?_
    refine fine_ask O (n := 100000) (q := 7) (by kernel_rfl) ?_
    refine fine_ask O (n := 100000) (q := 2) (by kernel_rfl) ?_
    refine fine_ask O (n := 100000) (q := 50) (by kernel_rfl) ?_
    refine fine_ask O (n := 100000) (q := 2) (by kernel_rfl) ?_
    refine fine_ask O (n := 100000) (q := 2) (by kernel_rfl) ?_
    refine fine_tok O (n := 100000) (q := 1000) (by kernel_rfl) (by kernel_rfl) (fun _ => by kernel_rfl) (fun _ _ => by kernel_rfl) ?_
    intro u tk
    exact fine_true (by kernel_rfl) hR
  · intro P t m p D O hR
    refine fine_go O (n := 100000) (q := 4) ?_
    refine fine_ask O (n := 100000) (q := 2) (by kernel_rfl) ?_
    refine fine_ask O (n := 100000) (q := 6) (by kernel_rfl) ?_
    refine fine_ask O (n := 100000) (q := 7) (by kernel_rfl) ?_
    refine fine_ask O (n := 100000) (q := 2) (by kernel_rfl) ?_
    refine fine_ask O (n := 100000) (q := 2) (by kernel_rfl) ?_
    refine fine_call O (n := 100000) (n' := 100000) (q := 0) (fun b c => by cases b <;> cases c <;> kernel_rfl) ?_
    refine fine_ask O (n := 100000) (q := 7) (by kernel_rfl) ?_
    refine fine_ask O (n := 100000) (q := 2) (by kernel_rfl) ?_
    refine fine_ask O (n := 100000) (q := 50) (by kernel_rfl) ?_
    refine fine_ask O (n := 100000) (q := 2) (by kernel_rfl) ?_
    refine fine_ask O (n := 100000) (q := 2) (by kernel_rfl) ?_
    refine fine_tok O (n := 100000) (q := 1000) (by kernel_rfl) (by kernel_rfl) (fun _ => by kernel_rfl) (fun _ _ => by kernel_rfl) ?_
    intro u tk
    exact fine_true (by kernel_rfl) hR
  · intro P t m p D O hR
    refine fine_go O (n := 100000) (q := 4) ?_
    refine fine_ask O (n := 100000) (q := 2) (by kernel_rfl) ?_
    refine fine_ask O (n := 100000) (q := 6) (by kernel_rfl) ?_
    refine fine_ask O (n := 100000) (q := 7) (by kernel_rfl) ?_
    refine fine_ask O (n := 100000) (q := 2) (by kernel_rfl) ?_
    refine fine_ask O (n := 100000) (q := 2) (by kernel_rfl) ?_
    refine fine_call O (n := 100000) (n' := 100000) (q := 0) (fun b c => by cases b <;> cases c <;> kernel_rfl) ?_
    refine fine_ask O (n := 100000) (q := 21) (by kernel_rfl) ?_
    refine fine_ask O (n := 100000) (q := 11) (by kernel_rfl) ?_
    refine fine_ask O (n := 100000) (q := 2) (by kernel_rfl) ?_
    refine fine_ask O (n := 100000) (q := 69) (by kernel_rfl) ?_
    refine fine_par O (n := 100000) (q := 53) 29 par29 (by kernel_rfl) (by kernel_rfl) (by kernel_rfl) (by kernel_rfl) (by kernel_rfl) ?_
    intro g
    refine fine_tok O (n := 100000) (q := 9) (by kernel_rfl) (by kernel_rfl) (fun _ => by kernel_rfl) (fun _ _ => by kernel_rfl) ?_
    intro u tk
    refine fine_ask O (n := 100000) (q := 1) (by kernel_rfl) ?_
    refine fine_same O (n := 100000) (q := 1000) 688 626 (by kernel_rfl) (by kernel_rfl) (by kernel_rfl) ?_
    exact fine_true (by kernel_rfl) hR
  · intro P t m p D O hR
    refine fine_go O (n := 100000) (q := 4) ?_
    refine fine_ask O (n := 100000) (q := 2) (by kernel_rfl) ?_
    refine fine_ask O (n := 100000) (q := 6) (by kernel_rfl) ?_
    refine fine_ask O (n := 100000) (q := 7) (by kernel_rfl) ?_
    refine fine_ask O (n := 100000) (q := 2) (by kernel_rfl) ?_
    refine fine_ask O (n := 100000) (q := 2) (by kernel_rfl) ?_
    refine fine_call O (n := 100000) (n' := 100000) (q := 0) (fun b c => by cases b <;> cases c <;> kernel_rfl) ?_
    refine fine_ask O (n := 100000) (q := 21) (by kernel_rfl) ?_
    refine fine_ask O (n := 100000) (q := 11) (by kernel_rfl) ?_
    refine fine_ask O (n := 100000) (q := 2) (by kernel_rfl) ?_
    refine fine_ask O (n := 100000) (q := 69) (by kernel_rfl) ?_
    refine fine_par O (n := 100000) (q := 53) 29 par29 (by kernel_rfl) (by kernel_rfl) (by kernel_rfl) (by kernel_rfl) (by kernel_rfl) ?_
    intro g
    refine fine_tok O (n := 100000) (q := 9) (by kernel_rfl) (by kernel_rfl) (fun _ => by kernel_rfl) (fun _ _ => by kernel_rfl) ?_
    intro u tk
    refine fine_ask O (n := 100000) (q := 1) (by kernel_rfl) ?_
    refine fine_same O (n := 100000) (q := 1000) 688 626 (by kernel_rfl) (by kernel_rfl) (by kernel_rfl) ?_
    exact fine_true (by kernel_rfl) hR
  · intro P t m p D O hR
    refine fine_go O (n := 100000) (q := 4) ?_
    refine fine_ask O (n := 100000) (q := 2) (by kernel_rfl) ?_
    refine fine_ask O (n := 100000) (q := 6) (by kernel_rfl) ?_
    refine fine_ask O (n := 100000) (q := 7) (by kernel_rfl) ?_
    refine fine_ask O (n := 100000) (q := 2) (by kernel_rfl) ?_
    refine fine_ask O (n := 100000) (q := 2) (by kernel_rfl) ?_
    refine fine_call O (n := 100000) (n' := 100000) (q := 0) (fun b c => by cases b <;> cases c <;> kernel_rfl) ?_
    refine fine_ask O (n := 100000) (q := 21) (by kernel_rfl) ?_
    refine fine_ask O (n := 100000) (q := 11) (by kernel_rfl) ?_
    refine fine_ask O (n := 100000) (q := 2) (by kernel_rfl) ?_
    refine fine_ask O (n := 100000) (q := 69) (by kernel_rfl) ?_
    refine fine_par O (n := 100000) (q := 53) 29 par29 (by kernel_rfl) (by kernel_rfl) (by kernel_rfl) (by kernel_rfl) (by kernel_rfl) ?_
    intro g
    refine fine_tok O (n := 100000) (q := 9) (by kernel_rfl) (by kernel_rfl) (fun _ => by kernel_rfl) (fun _ _ => by kernel_rfl) ?_
    intro u tk
    refine fine_ask O (n := 100000) (q := 1) (by kernel_rfl) ?_
    refine fine_same O (n := 100000) (q := 1000) 688 626 (by kernel_rfl) (by kernel_rfl) (by kernel_rfl) ?_
    exact fine_true (by kernel_rfl) hR
  · intro P t m p D O hR
    refine fine_go O (n := 100000) (q := 4) ?_
    refine fine_ask O (n := 100000) (q := 2) (by kernel_rfl) ?_
    refine fine_ask O (n := 100000) (q := 6) (by kernel_rfl) ?_
    refine fine_ask O (n := 100000) (q := 7) (by kernel_rfl) ?_
    refine fine_ask O (n := 100000) (q := 2) (by kernel_rfl) ?_
    refine fine_ask O (n := 100000) (q := 2) (by kernel_rfl) ?_
    refine fine_call O (n := 100000) (n' := 100000) (q := 0) (fun b c => by cases b <;> cases c <;> kernel_rfl) ?_
    refine fine_ask O (n := 100000) (q := 21) (by kernel_rfl) ?_
    refine fine_ask O (n := 100000) (q := 11) (by kernel_rfl) ?_
    refine fine_ask O (n := 100000) (q := 2) (by kernel_rfl) ?_
    refine fine_ask O (n := 100000) (q := 69) (by kernel_rfl) ?_
    refine fine_par O (n := 100000) (q := 53) 29 par29 (by kernel_rfl) (by kernel_rfl) (by kernel_rfl) (by kernel_rfl) (by kernel_rfl) ?_
    intro g
    refine fine_tok O (n := 100000) (q := 9) (by kernel_rfl) (by kernel_rfl) (fun _ => by kernel_rfl) (fun _ _ => by kernel_rfl) ?_
    intro u tk
    refine fine_ask O (n := 100000) (q := 1) (by kernel_rfl) ?_
    refine fine_same O (n := 100000) (q := 1000) 688 626 (by kernel_rfl) (by kernel_rfl) (by kernel_rfl) ?_
    exact fine_true (by kernel_rfl) hR
end Mine

namespace Mine
theorem g22 : RunOk 1 ⟨#[49, 50, 51]⟩ ∧
  RunOk 1 ⟨#[55]⟩ ∧
  RunOk 1 ⟨#[48, 53, 76]⟩ ∧
  RunOk 1 ⟨#[48, 76]⟩ ∧
  RunOk 1 ⟨#[49, 50, 51, 76]⟩ ∧
  RunOk 1 ⟨#[49, 50, 76]⟩ ∧
  RunOk 1 ⟨#[49, 76]⟩ ∧
  RunOk 1 ⟨#[55, 76]⟩ := by
  refine ⟨?_, ?_, ?_, ?_, ?_, ?_, ?_, ?_⟩
  · intro P t m p D O hR
    refine fine_go O (n := 100000) (q := 4) ?_
    refine fine_ask O (n := 100000) (q := 2) (by kernel_rfl) ?_
    refine fine_ask O (n := 100000) (q := 6) (by kernel_rfl) ?_
    refine fine_ask O (n := 100000) (q := 7) (by kernel_rfl) ?_
    refine fine_ask O (n := 100000) (q := 2) (by kernel_rfl) ?_
    refine fine_ask O (n := 100000) (q := 2) (by kernel_rfl) ?_
    refine fine_call O (n := 100000) (n' := 100000) (q := 0) (fun b c => by cases b <;> cases c <;> kernel_rfl) ?_
    refine fine_ask O (n := 100000) (q := 21) (by kernel_rfl) ?_
    refine fine_ask O (n := 100000) (q := 11) (by kernel_rfl) ?_
    refine fine_ask O (n := 100000) (q := 2) (by kernel_rfl) ?_
    refine fine_ask O (n := 100000) (q := 69) (by kernel_rfl) ?_
    refine fine_par O (n := 100000) (q := 53) 29 par29 (by kernel_rfl) (by kernel_rfl) (by kernel_rfl) (by kernel_rfl) (by kernel_rfl) ?_
    intro g
    refine fine_tok O (n := 100000) (q := 9) (by kernel_rfl) (by kernel_rfl) (fun _ => by kernel_rfl) (fun _ _ => by kernel_rfl) ?_
    intro u tk
    refine fine_ask O (n := 100000) (q := 1) (by kernel_rfl) ?_
    refine fine_same O (n := 100000) (q := 1000) 688 626 (by kernel_rfl) (by kernel_rfl) (by kernel_rfl) ?_
    exact fine_true (by kernel_rfl) hR
  · intro P t m p D O hR
    refine fine_go O (n := 100000) (q := 4) ?_
    refine fine_ask O (n := 100000) (q := 2) (by kernel_rfl) ?_
    refine fine_ask O (n := 100000) (q := 6) (by kernel_rfl) ?_
    refine fine_ask O (n := 100000) (q := 7) (by kernel_rfl) ?_
    refine fine_ask O (n := 100000) (q := 2) (by kernel_rfl) ?_
    refine fine_ask O (n := 100000) (q := 2) (by kernel_rfl) ?_
    refine fine_call O (n := 100000) (n' := 100000) (q := 0) (fun b c => by cases b <;> cases c <;> kernel_rfl) ?_
    refine fine_ask O (n := 100000) (q := 21) (by kernel_rfl) ?_
    refine fine_ask O (n := 100000) (q := 11) (by kernel_rfl) ?_
    refine fine_ask O (n := 100000) (q := 2) (by kernel_rfl) ?_
    refine fine_ask O (n := 100000) (q := 69) (by kernel_rfl) ?_
    refine fine_par O (n := 100000) (q := 53) 29 par29 (by kernel_rfl) (by kernel_rfl) (by kernel_rfl) (by kernel_rfl) (by kernel_rfl) ?_
    intro g
    refine fine_tok O (n := 100000) (q := 9) (by kernel_rfl) (by kernel_rfl) (fun _ => by kernel_rfl) (fun _ _ => by kernel_rfl) ?_
    intro u tk
    refine fine_ask O (n := 100000) (q := 1) (by kernel_rfl) ?_
    refine fine_same O (n := 100000) (q := 1000) 688 626 (by kernel_rfl) (by kernel_rfl) (by kernel_rfl) ?_
    exact fine_true (by kernel_rfl) hR
  · intro P t m p D O hR
    refine fine_go O (n := 100000) (q := 4) ?_
    refine fine_ask O (n := 100000) (q := 2) (by kernel_rfl) ?_
    refine fine_ask O (n := 100000) (q := 6) (by kernel_rfl) ?_
    refine fine_ask O (n := 100000) (q := 11) (by kernel_rfl) ?_
    refine fine_ask O (n := 100000) (q := 2) (by kernel_rfl) ?_
    refine fine_ask O (n := 100000) (q := 2) (by kernel_rfl) ?_
    refine fine_call O (n := 100000) (n' := 100000) (q := 0) (fun b c => by cases b <;> cases c <;> kernel_rfl) ?_
    refine fine_ask O (n := 100000) (q := 21) (by kernel_rfl) ?_
    refine fine_ask O (n := 100000) (q := 11) (by kernel_rfl) ?_
    refine fine_ask O (n := 100000) (q := 2) (by kernel_rfl) ?_
    refine fine_ask O (n := 100000) (q := 50) (by kernel_rfl) ?_
    refine fine_ask O (n := 100000) (q := 37) (by kernel_rfl) ?_
    refine fine_par O (n := 100000) (q := 53) 31 par31 (by kernel_rfl) (by kernel_rfl) (by kernel_rfl) (by kernel_rfl) (by kernel_rfl) ?_
    intro g
    refine fine_tok O (n := 100000) (q := 9) (by kernel_rfl) (by kernel_rfl) (fun _ => by kernel_rfl) (fun _ _ => by kernel_rfl) ?_
    intro u tk
    refine fine_ask O (n := 100000) (q := 1) (by kernel_rfl) ?_
    refine fine_same O (n := 100000) (q := 1000) 690 627 (by kernel_rfl) (by kernel_rfl) (by kernel_rfl) ?_
    exact fine_true (by kernel_rfl) hR
  · intro P t m p D O hR
    refine fine_go O (n := 100000) (q := 4) ?_
    refine fine_ask O (n := 100000) (q := 2) (by kernel_rfl) ?_
    refine fine_ask O (n := 100000) (q := 6) (by kernel_rfl) ?_
    refine fine_ask O (n := 100000) (q := 11) (by kernel_rfl) ?_
    refine fine_ask O (n := 100000) (q := 2) (by kernel_rfl) ?_
    refine fine_ask O (n := 100000) (q := 2) (by kernel_rfl) ?_
    refine fine_call O (n := 100000) (n' := 100000) (q := 0) (fun b c => by cases b <;> cases c <;> kernel_rfl) ?_
    refine fine_ask O (n := 100000) (q := 21) (by kernel_rfl) ?_
    refine fine_ask O (n := 100000) (q := 11) (by kernel_rfl) ?_
    refine fine_ask O (n := 100000) (q := 2) (by kernel_rfl) ?_
    refine fine_ask O (n := 100000) (q := 50) (by kernel_rfl) ?_
    refine fine_ask O (n := 100000) (q := 37) (by kernel_rfl) ?_
    refine fine_par O (n := 100000) (q := 53) 31 par31 (by kernel_rfl) (by kernel_rfl) (by kernel_rfl) (by kernel_rfl) (by kernel_rfl) ?_
    intro g
    refine fine_tok O (n := 100000) (q := 9) (by kernel_rfl) (by kernel_rfl) (fun _ => by kernel_rfl) (fun _ _ => by kernel_rfl) ?_
    intro u tk
    refine fine_ask O (n := 100000) (q := 1) (by kernel_rfl) ?_
    refine fine_same O (n := 100000) (q := 1000) 690 627 (by kernel_rfl) (by kernel_rfl) (by kernel_rfl) ?_
    exact fine_true (by kernel_rfl) hR
  · intro P t m p D O hR
    refine fine_go O (n := 100000) (q := 4) ?_
    refine fine_ask O (n := 100000) (q := 2) (by kernel_rfl) ?_
    refine fine_ask O (n := 100000) (q := 6) (by kernel_rfl) ?_
    refine fine_ask O (n := 100000) (q := 11) (by kernel_rfl) ?_
    refine fine_ask O (n := 100000) (q := 2) (by kernel_rfl) ?_
    refine fine_ask O (n := 100000) (q := 2) (by kernel_rfl) ?_
    refine fine_call O (n := 100000) (n' := 100000) (q := 0) (fun b c => by cases b <;> cases c <;> kernel_rfl) ?_
    refine fine_ask O (n := 100000) (q := 21) (by kernel_rfl) ?_
    refine fine_ask O (n := 100000) (q := 11) (by kernel_rfl) ?_
    refine fine_ask O (n := 100000) (q := 2) (by kernel_rfl) ?_
    refine fine_ask O (n := 100000) (q := 50) (by kernel_rfl) ?_
    refine fine_ask O (n := 100000) (q := 37) (by kernel_rfl) ?_
    refine fine_par O (n := 100000) (q := 53) 31 par31 (by kernel_rfl) (by kernel_rfl) (by kernel_rfl) (by kernel_rfl) (by kernel_rfl) ?_
    intro g
    refine fine_tok O (n := 100000) (q := 9) (by kernel_rfl) (by kernel_rfl) (fun _ => by kernel_rfl) (fun _ _ => by kernel_rfl) ?_
    intro u tk
    refine fine_ask O (n := 100000) (q := 1) (by kernel_rfl) ?_
    refine fine_same O (n := 100000) (q := 1000) 690 627 (by kernel_rfl) (by kernel_rfl) (by kernel_rfl) ?_
    exact fine_true (by kernel_rfl) hR
  · intro P t m p D O hR
    refine fine_go O (n := 100000) (q := 4) ?_
    refine fine_ask O (n := 100000) (q := 2) (by kernel_rfl) ?_
    refine fine_ask O (n := 100000) (q := 6) (by kernel_rfl) ?_
    refine fine_ask O (n := 100000) (q := 11) (by kernel_rfl) ?_
    refine fine_ask O (n := 100000) (q := 2) (by kernel_rfl) ?_
    refine fine_ask O (n := 100000) (q := 2) (by kernel_rfl) ?_
    refine fine_call O (n := 100000) (n' := 100000) (q := 0) (fun b c => by cases b <;> cases c <;> kernel_rfl) ?_
    refine fine_ask O (n := 100000) (q := 21) (by kernel_rfl) ?_
    refine fine_ask O (n := 100000) (q := 11) (by kernel_rfl) ?_
    refine fine_ask O (n := 100000) (q := 2) (by kernel_rfl) ?_
    refine fine_ask O (n := 100000) (q := 50) (by kernel_rfl) ?_
    refine fine_ask O (n := 100000) (q := 37) (by kernel_rfl) ?_
    refine fine_par O (n := 100000) (q := 53) 31 par31 (by kernel_rfl) (by kernel_rfl) (by kernel_rfl) (by kernel_rfl) (by kernel_rfl) ?_
    intro g
    refine fine_tok O (n := 100000) (q := 9) (by kernel_rfl) (by kernel_rfl) (fun _ => by kernel_rfl) (fun _ _ => by kernel_rfl) ?_
    intro u tk
    refine fine_ask O (n := 100000) (q := 1) (by kernel_rfl) ?_
    refine fine_same O (n := 100000) (q := 1000) 690 627 (by kernel_rfl) (by kernel_rfl) (by kernel_rfl) ?_
    exact fine_true (by kernel_rfl) hR
  · intro P t m p D O hR
    refine fine_go O (n := 100000) (q := 4) ?_
    refine fine_ask O (n := 100000) (q := 2) (by kernel_rfl) ?_
    refine fine_ask O (n := 100000) (q := 6) (by kernel_rfl) ?_
    refine fine_ask O (n := 100000) (q := 11) (by kernel_rfl) ?_
    refine fine_ask O (n := 100000) (q := 2) (by kernel_rfl) ?_
    refine fine_ask O (n := 100000) (q := 2) (by kernel_rfl) ?_
    refine fine_call O (n := 100000) (n' := 100000) (q := 0) (fun b c => by cases b <;> cases c <;> kernel_rfl) ?_
    refine fine_ask O (n := 100000) (q := 21) (by kernel_rfl) ?_
    refine fine_ask O (n := 100000) (q := 11) (by kernel_rfl) ?_
    refine fine_ask O (n := 100000) (q := 2) (by kernel_rfl) ?_
    refine fine_ask O (n := 100000) (q := 50) (by kernel_rfl) ?_
    refine fine_ask O (n := 100000) (q := 37) (by kernel_rfl) ?_
    refine fine_par O (n := 100000) (q := 53) 31 par31 (by kernel_rfl) (by kernel_rfl) (by kernel_rfl) (by kernel_rfl) (by kernel_rfl) ?_
    intro g
    refine fine_tok O (n := 100000) (q := 9) (by kernel_rfl) (by kernel_rfl) (fun _ => by kernel_rfl) (fun _ _ => by kernel_rfl) ?_
    intro u tk
    refine fine_ask O (n := 100000) (q := 1) (by kernel_rfl) ?_
    refine fine_same O (n := 100000) (q := 1000) 690 627 (by kernel_rfl) (by kernel_rfl) (by kernel_rfl) ?_
    exact fine_true (by kernel_rfl) hR
  · intro P t m p D O hR
    refine fine_go O (n := 100000) (q := 4) ?_
    refine fine_ask O (n := 100000) (q := 2) (by kernel_rfl) ?_
    refine fine_ask O (n := 100000) (q := 6) (by kernel_rfl) ?_
    refine fine_ask O (n := 100000) (q := 11) (by kernel_rfl) ?_
    refine fine_ask O (n := 100000) (q := 2) (by kernel_rfl) ?_
    refine fine_ask O (n := 100000) (q := 2) (by kernel_rfl) ?_
    refine fine_call O (n := 100000) (n' := 100000) (q := 0) (fun b c => by cases b <;> cases c <;> kernel_rfl) ?_
    refine fine_ask O (n := 100000) (q := 21) (by kernel_rfl) ?_
    refine fine_ask O (n := 100000) (q := 11) (by kernel_rfl) ?_
    refine fine_ask O (n := 100000) (q := 2) (by kernel_rfl) ?_
    refine fine_ask O (n := 100000) (q := 50) (by kernel_rfl) ?_
    refine fine_ask O (n := 100000) (q := 37) (by kernel_rfl) ?_
    refine fine_par O (n := 100000) (q := 53) 31 par31 (by kernel_rfl) (by kernel_rfl) (by kernel_rfl) (by kernel_rfl) (by kernel_rfl) ?_
    intro g
    refine fine_tok O (n := 100000) (q := 9) (by kernel_rfl) (by kernel_rfl) (fun _ => by kernel_rfl) (fun _ _ => by kernel_rfl) ?_
    intro u tk
    refine fine_ask O (n := 100000) (q := 1) (by kernel_rfl) ?_
    refine fine_same O (n := 100000) (q := 1000) 690 627 (by kernel_rfl) (by kernel_rfl) (by kernel_rfl) ?_
    exact fine_true (by kernel_rfl) hR
end Mine

namespace Mine
theorem g23 : RunOk 2 ⟨#[]⟩ ∧
  RunOk 2 ⟨#[68, 65, 73, 76, 89, 32]⟩ ∧
  RunOk 2 ⟨#[68, 65, 73, 76, 89, 32, 89]⟩ ∧
  RunOk 2 ⟨#[68, 65, 73, 76, 89, 32, 120]⟩ ∧
  RunOk 2 ⟨#[72, 79, 85, 82, 76, 89, 89]⟩ ∧
  RunOk 2 ⟨#[72, 79, 85, 82, 76, 89, 120]⟩ ∧
  RunOk 2 ⟨#[77, 105, 110, 117, 116, 101, 108, 121, 89]⟩ ∧
  RunOk 2 ⟨#[77, 105, 110, 117, 116, 101, 108, 121, 120]⟩ := by
  refine ⟨?_, ?_, ?_, ?_, ?_, ?_, ?_, ?_⟩
  · intro P t m p D O hR
    refine fine_go O (n := 100000) (q := 4) ?_
    refine fine_ask O (n := 100000) (q := 2) (by kernel_rfl) ?_
    refine fine_ask O (n := 100000) (q := 2) (by kernel_rfl) ?_
    refine fine_ask O (n := 100000) (q := 9) (by kernel_rfl) ?_
    refine fine_ask O (n := 100000) (q := 3) (by kernel_rfl) ?_
    refine fine_ask O (n := 100000) (q := 3) (by kernel_rfl) ?_
    refine fine_ask O (n := 100000) (q := 3) (by kernel_rfl) ?_
    refine fine_ask O (n := 100000) (q := 3) (by kernel_rfl) ?_
    refine fine_ask O (n := 100000) (q := 3) (by kernel_rfl) ?_
    refine fine_ask O (n := 100000) (q := 3) (by kernel_rfl) ?_
    refine fine_ask O (n := 100000) (q := 8) (by kernel_rfl) ?_
    refine fine_ask O (n := 100000) (q := 2) (by kernel_rfl) ?_
    refine fine_ask O (n := 100000) (q := 2) (by kernel_rfl) ?_
    refine fine_ask O (n := 100000) (q := 52) (by kernel_rfl) ?_
    refine fine_ask O (n := 100000) (q := 17) (by kernel_rfl) ?_
    refine fine_tok O (n := 100000) (q := 1000) (by kernel_rfl) (by kernel_rfl) (fun _ => by kernel_rfl) (fun _ _ => by kernel_rfl) ?_
    intro u tk
    exact fine_true (by kernel_rfl) hR
  · intro P t m p D O hR
    refine fine_go O (n := 100000) (q := 4) ?_
    refine fine_ask O (n := 100000) (q := 2) (by kernel_rfl) ?_
    refine fine_ask O (n := 100000) (q := 2) (by kernel_rfl) ?_
    refine fine_ask O (n := 100000) (q := 9) (by kernel_rfl) ?_
    refine fine_ask O (n := 100000) (q := 3) (by kernel_rfl) ?_
    refine fine_ask O (n := 100000) (q := 3) (by kernel_rfl) ?_
    refine fine_ask O (n := 100000) (q := 3) (by kernel_rfl) ?_
    refine fine_ask O (n := 100000) (q := 3) (by kernel_rfl) ?_
    refine fine_ask O (n := 100000) (q := 3) (by kernel_rfl) ?_
    refine fine_ask O (n := 100000) (q := 3) (by kernel_rfl) ?_
    refine fine_ask O (n := 100000) (q := 8) (by kernel_rfl) ?_
    refine fine_ask O (n := 100000) (q := 2) (by kernel_rfl) ?_
    refine fine_ask O (n := 100000) (q := 2) (by kernel_rfl) ?_
    refine fine_ask O (n := 100000) (q := 52) (by kernel_rfl) ?_
    refine fine_ask O (n := 100000) (q := 17) (by kernel_rfl) ?_
    refine fine_tok O (n := 100000) (q := 1000) (by kernel_rfl) (by kernel_rfl) (fun _ => by kernel_rfl) (fun _ _ => by kernel_rfl) ?_
    intro u tk
    exact fine_true (by kernel_rfl) hR
  · intro P t m p D O hR
    refine fine_go O (n := 100000) (q := 4) ?_
    refine fine_ask O (n := 100000) (q := 2) (by kernel_rfl) ?_
    refine fine_ask O (n := 100000) (q := 2) (by kernel_rfl) ?_
    refine fine_ask O (n := 100000) (q := 9) (by kernel_rfl) ?_
    refine fine_ask O (n := 100000) (q := 3) (by kernel_rfl) ?_
    refine fine_ask O (n := 100000) (q := 3) (by kernel_rfl) ?_
    refine fine_ask O (n := 100000) (q := 3) (by kernel_rfl) ?_
    refine fine_ask O (n := 100000) (q := 3) (by kernel_rfl) ?_
    refine fine_ask O (n := 100000) (q := 3) (by kernel_rfl) ?_
    refine fine_ask O (n := 100000) (q := 3) (by kernel_rfl) ?_
    refine fine_ask O (n := 100000) (q := 8) (by kernel_rfl) ?_
    refine fine_ask O (n := 100000) (q := 2) (by kernel_rfl) ?_
    refine fine_ask O (n := 100000) (q := 2) (by kernel_rfl) ?_
    refine fine_ask O (n := 100000) (q := 52) (by kernel_rfl) ?_
    refine fine_ask O (n := 100000) (q := 17) (by kernel_rfl) ?_
    refine fine_tok O (n := 100000) (q := 1000) (by kernel_rfl) (by kernel_rfl) (fun _ => by kernel_rfl) (fun _ _ => by kernel_rfl) ?_
    intro u tk
    exact fine_true (by kernel_rfl) hR
  · intro P t m p D O hR
    refine fine_go O (n := 100000) (q := 4) ?_
    refine fine_ask O (n := 100000) (q := 2) (by kernel_rfl) ?_
    refine fine_ask O (n := 100000) (q := 2) (by kernel_rfl) ?_
    refine fine_ask O (n := 100000) (q := 9) (by kernel_rfl) ?_
    refine fine_ask O (n := 100000) (q := 3) (by kernel_rfl) ?_
    refine fine_ask O (n := 100000) (q := 3) (by kernel_rfl) ?_
    refine fine_ask O (n := 100000) (q := 3) (by kernel_rfl) ?_
    refine fine_ask O (n := 100000) (q := 3) (by kernel_rfl) ?_
    refine fine_ask O (n := 100000) (q := 3) (by kernel_rfl) ?_
    refine fine_ask O (n := 100000) (q := 3) (by kernel_rfl) ?_
    refine fine_ask O (n := 100000) (q := 8) (by kernel_rfl) ?_
    refine fine_ask O (n := 100000) (q := 2) (by kernel_rfl) ?_
    refine fine_ask O (n := 100000) (q := 2) (by kernel_rfl) ?_
    refine fine_ask O (n := 100000) (q := 52) (by kernel_rfl) ?_
    refine fine_ask O (n := 100000) (q := 17) (by kernel_rfl) ?_
    refine fine_tok O (n := 100000) (q := 1000) (by kernel_rfl) (by kernel_rfl) (fun _ => by kernel_rfl) (fun _ _ => by kernel_rfl) ?_
    intro u tk
    exact fine_true (by kernel_rfl) hR
  · intro P t m p D O hR
    refine fine_go O (n := 100000) (q := 4) ?_
    refine fine_ask O (n := 100000) (q := 2) (by kernel_rfl) ?_
    refine fine_ask O (n := 100000) (q := 2) (by kernel_rfl) ?_
    refine fine_ask O (n := 100000) (q := 9) (by kernel_rfl) ?_
    refine fine_ask O (n := 100000) (q := 3) (by kernel_rfl) ?_
    refine fine_ask O (n := 100000) (q := 3) (by kernel_rfl) ?_
    refine fine_ask O (n := 100000) (q := 3) (by kernel_rfl) ?_
    refine fine_ask O (n := 100000) (q := 3) (by kernel_rfl) ?_
    refine fine_ask O (n := 100000) (q := 3) (by kernel_rfl) ?_
    refine fine_ask O (n := 100000) (q := 3) (by kernel_rfl) ?_
    refine fine_ask O (n := 100000) (q := 8) (by kernel_rfl) ?_
    refine fine_ask O (n := 100000) (q := 2) (by kernel_rfl) ?_
    refine fine_ask O (n := 100000) (q := 2) (by kernel_rfl) ?_
    refine fine_ask O (n := 100000) (q := 52) (by kernel_rfl) ?_
    refine fine_ask O (n := 100000) (q := 17) (by kernel_rfl) ?_
    refine fine_tok O (n := 100000) (q := 1000) (by kernel_rfl) (by kernel_rfl) (fun _ => by kernel_rfl) (fun _ _ => by kernel_rfl) ?_
    intro u tk
    exact fine_true (by kernel_rfl) hR
  · intro P t m p D O hR
    refine fine_go O (n := 100000) (q := 4) ?_
    refine fine_ask O (n := 100000) (q := 2) (by kernel_rfl) ?_
    refine fine_ask O (n := 100000) (q := 2) (by kernel_rfl) ?_
    refine fine_ask O (n := 100000) (q := 9) (by kernel_rfl) ?_
    refine fine_ask O (n := 100000) (q := 3) (by kernel_rfl) ?_
    refine fine_ask O (n := 100000) (q := 3) (by kernel_rfl) ?_
    refine fine_ask O (n := 100000) (q := 3) (by kernel_rfl) ?_
    refine fine_ask O (n := 100000) (q := 3) (by kernel_rfl) ?_
    refine fine_ask O (n := 100000) (q := 3) (by kernel_rfl) ?_
    refine fine_ask O (n := 100000) (q := 3) (by kernel_rfl) ?_
    refine fine_ask O (n := 100000) (q := 8) (by kernel_rfl) ?_
    refine fine_ask O (n := 100000) (q := 2) (by kernel_rfl) ?_
    refine fine_ask O (n := 100000) (q := 2) (by kernel_rfl) ?_
    refine fine_ask O (n := 100000) (q := 52) (by kernel_rfl) ?_
    refine fine_ask O (n := 100000) (q := 17) (by kernel_rfl) ?_
    refine fine_tok O (n := 100000) (q := 1000) (by kernel_rfl) (by kernel_rfl) (fun _ => by kernel_rfl) (fun _ _ => by kernel_rfl) ?_
    intro u tk
    exact fine_true (by kernel_rfl) hR
  · intro P t m p D O hR
    refine fine_go O (n := 100000) (q := 4) ?_
    refine fine_ask O (n := 100000) (q := 2) (by kernel_rfl) ?_
    refine fine_ask O (n := 100000) (q := 2) (by kernel_rfl) ?_
    refine fine_ask O (n := 100000) (q := 9) (by kernel_rfl) ?_
    refine fine_ask O (n := 100000) (q := 3) (by kernel_rfl) ?_
    refine fine_ask O (n := 100000) (q := 3) (by kernel_rfl) ?_
    refine fine_ask O (n := 100000) (q := 3) (by kernel_rfl) ?_
    refine fine_ask O (n := 100000) (q := 3) (by kernel_rfl) ?_
    refine fine_ask O (n := 100000) (q := 3) (by kernel_rfl) ?_
    refine fine_ask O (n := 100000) (q := 3) (by kernel_rfl) ?_
    refine fine_ask O (n := 100000) (q := 8) (by kernel_rfl) ?_
    refine fine_ask O (n := 100000) (q := 2) (by kernel_rfl) ?_
    refine fine_ask O (n := 100000) (q := 2) (by kernel_rfl) ?_
    refine fine_ask O (n := 100000) (q := 52) (by kernel_rfl) ?_
    refine fine_ask O (n := 100000) (q := 17) (by kernel_rfl) ?_
    refine fine_tok O (n := 100000) (q := 1000) (by kernel_rfl) (by kernel_rfl) (fun _ => by kernel_rfl) (fun _ _ => by kernel_rfl) ?_
    intro u tk
    exact fine_true (by kernel_rfl) hR
  · intro P t m p D O hR
    refine fine_go O (n := 100000) (q := 4) ?_
    refine fine_ask O (n := 100000) (q := 2) (by kernel_rfl) ?_
    refine fine_ask O (n := 100000) (q := 2) (by kernel_rfl) ?_
    refine fine_ask O (n := 100000) (q := 9) (by kernel_rfl) ?_
    refine fine_ask O (n := 100000) (q := 3) (by kernel_rfl) ?_
    refine fine_ask O (n := 100000) (q := 3) (by kernel_rfl) ?_
    refine fine_ask O (n := 100000) (q := 3) (by kernel_rfl) ?_
    refine fine_ask O (n := 100000) (q := 3) (by kernel_rfl) ?_
    refine fine_ask O (n := 100000) (q := 3) (by kernel_rfl) ?_
    refine fine_ask O (n := 100000) (q := 3) (by kernel_rfl) ?_
    refine fine_ask O (n := 100000) (q := 8) (by kernel_rfl) ?_
    refine fine_ask O (n := 100000) (q := 2) (by kernel_rfl) ?_
    refine fine_ask O (n := 100000) (q := 2) (by kernel_rfl) ?_
    refine fine_ask O (n := 100000) (q := 52) (by kernel_rfl) ?_
    refine fine_ask O (n := 100000) (q := 17) (by kernel_rfl) ?_
    refine fine_tok O (n := 100000) (q := 1000) (by kernel_rfl) (by kernel_rfl) (fun _ => by kernel_rfl) (fun _ _ => by kernel_rfl) ?_
    intro u tk
    exact fine_true (by kernel_rfl) hR
end Mine

namespace Mine
theorem g24 : RunOk 2 ⟨#[87, 69, 69, 75, 76, 89, 89]⟩ ∧
  RunOk 2 ⟨#[87, 69, 69, 75, 76, 89, 120]⟩ ∧
  RunOk 2 ⟨#[89]⟩ ∧
  RunOk 2 ⟨#[89, 69, 65, 82, 76]⟩ ∧
  RunOk 2 ⟨#[89, 69, 65, 82, 76, 120]⟩ ∧
  RunOk 2 ⟨#[89, 101, 97, 114, 108, 121, 89]⟩ ∧
  RunOk 2 ⟨#[89, 101, 97, 114, 108, 121, 120]⟩ ∧
  RunOk 2 ⟨#[100, 97, 105, 108, 121, 89]⟩ := by
  refine ⟨?_, ?_, ?_, ?_, ?_, ?_, ?_, ?_⟩
  · intro P t m p D O hR
    refine fine_go O (n := 100000) (q := 4) ?_
    refine fine_ask O (n := 100000) (q := 2) (by kernel_rfl) ?_
    refine fine_ask O (n := 100000) (q := 2) (by kernel_rfl) ?_
    refine fine_ask O (n := 100000) (q := 9) (by kernel_rfl) ?_
    refine fine_ask O (n := 100000) (q := 3) (by kernel_rfl) ?_
    refine fine_ask O (n := 100000) (q := 3) (by kernel_rfl) ?_
    refine fine_ask O (n := 100000) (q := 3) (by kernel_rfl) ?_
    refine fine_ask O (n := 100000) (q := 3) (by kernel_rfl) ?_
    refine fine_ask O (n := 100000) (q := 3) (by kernel_rfl) ?_
    refine fine_ask O (n := 100000) (q := 3) (by kernel_rfl) ?_
    refine fine_ask O (n := 100000) (q := 8) (by kernel_rfl) ?_
    refine fine_ask O (n := 100000) (q := 2) (by kernel_rfl) ?_
    refine fine_ask O (n := 100000) (q := 2) (by kernel_rfl) ?_
    refine fine_ask O (n := 100000) (q := 52) (by kernel_rfl) ?_
    refine fine_ask O (n := 100000) (q := 17) (by kernel_rfl) ?_
    refine fine_tok O (n := 100000) (q := 1000) (by kernel_rfl) (by kernel_rfl) (fun _ => by kernel_rfl) (fun _ _ => by kernel_rfl) ?_
    intro u tk
    exact fine_true (by kernel_rfl) hR
  · intro P t m p D O hR
    refine fine_go O (n := 100000) (q := 4) ?_
    refine fine_ask O (n := 100000) (q := 2) (by kernel_rfl) ?_
    refine fine_ask O (n := 100000) (q := 2) (by kernel_rfl) ?_
    refine fine_ask O (n := 100000) (q := 9) (by kernel_rfl) ?_
    refine fine_ask O (n := 100000) (q := 3) (by kernel_rfl) ?_
    refine fine_ask O (n := 100000) (q := 3) (by kernel_rfl) ?_
    refine fine_ask O (n := 100000) (q := 3) (by kernel_rfl) ?_
    refine fine_ask O (n := 100000) (q := 3) (by kernel_rfl) ?_
    refine fine_ask O (n := 100000) (q := 3) (by kernel_rfl) ?_
    refine fine_ask O (n := 100000) (q := 3) (by kernel_rfl) ?_
    refine fine_ask O (n := 100000) (q := 8) (by kernel_rfl) ?_
    refine fine_ask O (n := 100000) (q := 2) (by kernel_rfl) ?_
    refine fine_ask O (n := 100000) (q := 2) (by kernel_rfl) ?_
    refine fine_ask O (n := 100000) (q := 52) (by kernel_rfl) ?_
    refine fine_ask O (n := 100000) (q := 17) (by kernel_rfl) ?_
    refine fine_tok O (n := 100000) (q := 1000) (by kernel_rfl) (by kernel_rfl) (fun _ => by kernel_rfl) (fun _ _ => by kernel_rfl) ?_
    intro u tk
    exact fine_true (by kernel_rfl) hR
  · intro P t m p D O hR
    refine fine_go O (n := 100000) (q := 4) ?_
    refine fine_ask O (n := 100000) (q := 2) (by kernel_rfl) ?_
    refine fine_ask O (n := 100000) (q := 2) (by kernel_rfl) ?_
    refine fine_ask O (n := 100000) (q := 9) (by kernel_rfl) ?_
    refine fine_ask O (n := 100000) (q := 3) (by kernel_rfl) ?_
    refine fine_ask O (n := 100000) (q := 3) (by kernel_rfl) ?_
    refine fine_ask O (n := 100000) (q := 3) (by kernel_rfl) ?_
    refine fine_ask O (n := 100000) (q := 3) (by kernel_rfl) ?_
    refine fine_ask O (n := 100000) (q := 3) (by kernel_rfl) ?_
    refine fine_ask O (n := 100000) (q := 3) (by kernel_rfl) ?_
    refine fine_ask O (n := 100000) (q := 8) (by kernel_rfl) ?_
    refine fine_ask O (n := 100000) (q := 2) (by kernel_rfl) ?_
    refine fine_ask O (n := 100000) (q := 2) (by kernel_rfl) ?_
    refine fine_ask O (n := 100000) (q := 52) (by kernel_rfl) ?_
    refine fine_ask O (n := 100000) (q := 17) (by kernel_rfl) ?_
    refine fine_tok O (n := 100000) (q := 1000) (by kernel_rfl) (by kernel_rfl) (fun _ => by kernel_rfl) (fun _ _ => by kernel_rfl) ?_
    intro u tk
    exact fine_true (by kernel_rfl) hR
  · intro P t m p D O hR
    refine fine_go O (n := 100000) (q := 4) ?_
    refine fine_ask O (n := 100000) (q := 2) (by kernel_rfl) ?_
    refine fine_ask O (n := 100000) (q := 2) (by kernel_rfl) ?_
    refine fine_ask O (n := 100000) (q := 9) (by kernel_rfl) ?_
    refine fine_ask O (n := 100000) (q := 3) (by kernel_rfl) ?_
    refine fine_ask O (n := 100000) (q := 3) (by kernel_rfl) ?_
    refine fine_ask O (n := 100000) (q := 3) (by kernel_rfl) ?_
    refine fine_ask O (n := 100000) (q := 3) (by kernel_rfl) ?_
    refine fine_ask O (n := 100000) (q := 3) (by kernel_rfl) ?_
    refine fine_ask O (n := 100000) (q := 3) (by kernel_rfl) ?_
    refine fine_ask O (n := 100000) (q := 8) (by kernel_rfl) ?_
    refine fine_ask O (n := 100000) (q := 2) (by kernel_rfl) ?_
    refine fine_ask O (n := 100000) (q := 2) (by kernel_rfl) ?_
    refine fine_ask O (n := 100000) (q := 52) (by kernel_rfl) ?_
    refine fine_ask O (n := 100000) (q := 17) (by kernel_rfl) ?_
    refine fine_tok O (n := 100000) (q := 1000) (by kernel_rfl) (by kernel_rfl) (fun _ => by kernel_rfl) (fun _ _ => by kernel_rfl) ?_
    intro u tk
    exact fine_true (by kernel_rfl) hR
  · intro P t m p D O hR
    refine fine_go O (n := 100000) (q := 4) ?_
    refine fine_ask O (n := 100000) (q := 2) (by kernel_rfl) ?_
    refine fine_ask O (n := 100000) (q := 2) (by kernel_rfl) ?_
    refine fine_ask O (n := 100000) (q := 9) (by kernel_rfl) ?_
    refine fine_ask O (n := 100000) (q := 3) (by kernel_rfl) ?_
    refine fine_ask O (n := 100000) (q := 3) (by kernel_rfl) ?_
    refine fine_ask O (n := 100000) (q := 3) (by kernel_rfl) ?_
    refine fine_ask O (n := 100000) (q := 3) (by kernel_rfl) ?_
    refine fine_ask O (n := 100000) (q := 3) (by kernel_rfl) ?_
    refine fine_ask O (n := 100000) (q := 3) (by kernel_rfl) ?_
    refine fine_ask O (n := 100000) (q := 8) (by kernel_rfl) ?_
    refine fine_ask O (n := 100000) (q := 2) (by kernel_rfl) ?_
    refine fine_ask O (n := 100000) (q := 2) (by kernel_rfl) ?_
    refine fine_ask O (n := 100000) (q := 52) (by kernel_rfl) ?_
    refine fine_ask O (n := 100000) (q := 17) (by kernel_rfl) ?_
    refine fine_tok O (n := 100000) (q := 1000) (by kernel_rfl) (by kernel_rfl) (fun _ => by kernel_rfl) (fun _ _ => by kernel_rfl) ?_
    intro u tk
    exact fine_true (by kernel_rfl) hR
  · intro P t m p D O hR
    refine fine_go O (n := 100000) (q := 4) ?_
    refine fine_ask O (n := 100000) (q := 2) (by kernel_rfl) ?_
    refine fine_ask O (n := 100000) (q := 2) (by kernel_rfl) ?_
    refine fine_ask O (n := 100000) (q := 9) (by kernel_rfl) ?_
    refine fine_ask O (n := 100000) (q := 3) (by kernel_rfl) ?_
    refine fine_ask O (n := 100000) (q := 3) (by kernel_rfl) ?_
    refine fine_ask O (n := 100000) (q := 3) (by kernel_rfl) ?_
    refine fine_ask O (n := 100000) (q := 3) (by kernel_rfl) ?_
    refine fine_ask O (n := 100000) (q := 3) (by kernel_rfl) ?_
    refine fine_ask O (n := 100000) (q := 3) (by kernel_rfl) ?_
    refine fine_ask O (n := 100000) (q := 8) (by kernel_rfl) ?_
    refine fine_ask O (n := 100000) (q := 2) (by kernel_rfl) ?_
    refine fine_ask O (n := 100000) (q := 2) (by kernel_rfl) ?_
    refine fine_ask O (n := 100000) (q := 52) (by kernel_rfl) ?_
    refine fine_ask O (n := 100000) (q := 17) (by kernel_rfl) ?_
    refine fine_tok O (n := 100000) (q := 1000) (by kernel_rfl) (by kernel_rfl) (fun _ => by kernel_rfl) (fun _ _ => by kernel_rfl) ?_
    intro u tk
    exact fine_true (by kernel_rfl) hR
  · intro P t m p D O hR
    refine fine_go O (n := 100000) (q := 4) ?_
    refine fine_ask O (n := 100000) (q := 2) (by kernel_rfl) ?_
    refine fine_ask O (n := 100000) (q := 2) (by kernel_rfl) ?_
    refine fine_ask O (n := 100000) (q := 9) (by kernel_rfl) ?_
    refine fine_ask O (n := 100000) (q := 3) (by kernel_rfl) ?_
    refine fine_ask O (n := 100000) (q := 3) (by kernel_rfl) ?_
    refine fine_ask O (n := 100000) (q := 3) (by kernel_rfl) ?_
    refine fine_ask O (n := 100000) (q := 3) (by kernel_rfl) ?_
    refine fine_ask O (n := 100000) (q := 3) (by kernel_rfl) ?_
    refine fine_ask O (n := 100000) (q := 3) (by kernel_rfl) ?_
    refine fine_ask O (n := 100000) (q := 8) (by kernel_rfl) ?_
    refine fine_ask O (n := 100000) (q := 2) (by kernel_rfl) ?_
    refine fine_ask O (n := 100000) (q := 2) (by kernel_rfl) ?_
    refine fine_ask O (n := 100000) (q := 52) (by kernel_rfl) ?_
    refine fine_ask O (n := 100000) (q := 17) (by kernel_rfl) ?_
    refine fine_tok O (n := 100000) (q := 1000) (by kernel_rfl) (by kernel_rfl) (fun _ => by kernel_rfl) (fun _ _ => by kernel_rfl) ?_
    intro u tk
    exact fine_true (by kernel_rfl) hR
  · intro P t m p D O hR
    refine fine_go O (n := 100000) (q := 4) ?_
    refine fine_ask O (n := 100000) (q := 2) (by kernel_rfl) ?_
    refine fine_ask O (n := 100000) (q := 2) (by kernel_rfl) ?_
    refine fine_ask O (n := 100000) (q := 9) (by kernel_rfl) ?_
    refine fine_ask O (n := 100000) (q := 3) (by kernel_rfl) ?_
    refine fine_ask O (n := 100000) (q := 3) (by kernel_rfl) ?_
    refine fine_ask O (n := 100000) (q := 3) (by kernel_rfl) ?_
    refine fine_ask O (n := 100000) (q := 3) (by kernel_rfl) ?_
    refine fine_ask O (n := 100000) (q := 3) (by kernel_rfl) ?_
    refine fine_ask O (n := 100000) (q := 3) (by kernel_rfl) ?_
    refine fine_ask O (n := 100000) (q := 8) (by kernel_rfl) ?_
    refine fine_ask O (n := 100000) (q := 2) (by kernel_rfl) ?_
    refine fine_ask O (n := 100000) (q := 2) (by kernel_rfl) ?_
    refine fine_ask O (n := 100000) (q := 52) (by kernel_rfl) ?_
    refine fine_ask O (n := 100000) (q := 17) (by kernel_rfl) ?_
    refine fine_tok O (n := 100000) (q := 1000) (by kernel_rfl) (by kernel_rfl) (fun _ => by kernel_rfl) (fun _ _ => by kernel_rfl) ?_
    intro u tk
    exact fine_true (by kernel_rfl) hR
end Mine

namespace Mine
theorem g25 : RunOk 2 ⟨#[100, 97, 105, 108, 121, 120]⟩ ∧
  RunOk 2 ⟨#[109, 111, 110, 116, 104, 108, 89, 89]⟩ ∧
  RunOk 2 ⟨#[109, 111, 110, 116, 104, 108, 89, 120]⟩ ∧
  RunOk 2 ⟨#[115, 101, 99, 111, 110, 100, 108, 121, 89]⟩ ∧
  RunOk 2 ⟨#[115, 101, 99, 111, 110, 100, 108, 121, 120]⟩ ∧
  RunOk 2 ⟨#[120]⟩ := by
  refine ⟨?_, ?_, ?_, ?_, ?_, ?_⟩
  · intro P t m p D O hR
    refine fine_go O (n := 100000) (q := 4) ?_
    refine fine_ask O (n := 100000) (q := 2) (by kernel_rfl) ?_
    refine fine_ask O (n := 100000) (q := 2) (by kernel_rfl) ?_
    refine fine_ask O (n := 100000) (q := 9) (by kernel_rfl) ?_
    refine fine_ask O (n := 100000) (q := 3) (by kernel_rfl) ?_
    refine fine_ask O (n := 100000) (q := 3) (by kernel_rfl) ?_
    refine fine_ask O (n := 100000) (q := 3) (by kernel_rfl) ?_
    refine fine_ask O (n := 100000) (q := 3) (by kernel_rfl) ?_
    refine fine_ask O (n := 100000) (q := 3) (by kernel_rfl) ?_
    refine fine_ask O (n := 100000) (q := 3) (by kernel_rfl) ?_
    refine fine_ask O (n := 100000) (q := 8) (by kernel_rfl) ?_
    refine fine_ask O (n := 100000) (q := 2) (by kernel_rfl) ?_
    refine fine_ask O (n := 100000) (q := 2) (by kernel_rfl) ?_
    refine fine_ask O (n := 100000) (q := 52) (by kernel_rfl) ?_
    refine fine_ask O (n := 100000) (q := 17) (by kernel_rfl) ?_
    refine fine_tok O (n := 100000) (q := 1000) (by kernel_rfl) (by kernel_rfl) (fun _ => by kernel_rfl) (fun _ _ => by kernel_rfl) ?_
    intro u tk
    exact fine_true (by kernel_rfl) hR
  · intro P t m p D O hR
    refine fine_go O (n := 100000) (q := 4) ?_
    refine fine_ask O (n := 100000) (q := 2) (by kernel_rfl) ?_
    refine fine_ask O (n := 100000) (q := 2) (by kernel_rfl) ?_
    refine fine_ask O (n := 100000) (q := 9) (by kernel_rfl) ?_
    refine fine_ask O (n := 100000) (q := 3) (by kernel_rfl) ?_
    refine fine_ask O (n := 100000) (q := 3) (by kernel_rfl) ?_
    refine fine_ask O (n := 100000) (q := 3) (by kernel_rfl) ?_
    refine fine_ask O (n := 100000) (q := 3) (by kernel_rfl) ?_
    refine fine_ask O (n := 100000) (q := 3) (by kernel_rfl) ?_
    refine fine_ask O (n := 100000) (q := 3) (by kernel_rfl) ?_
    refine fine_ask O (n := 100000) (q := 8) (by kernel_rfl) ?_
    refine fine_ask O (n := 100000) (q := 2) (by kernel_rfl) ?_
    refine fine_ask O (n := 100000) (q := 2) (by kernel_rfl) ?_
    refine fine_ask O (n := 100000) (q := 52) (by kernel_rfl) ?_
    refine fine_ask O (n := 100000) (q := 17) (by kernel_rfl) ?_
    refine fine_tok O (n := 100000) (q := 1000) (by kernel_rfl) (by kernel_rfl) (fun _ => by kernel_rfl) (fun _ _ => by kernel_rfl) ?_
    intro u tk
    exact fine_true (by kernel_rfl) hR
  · intro P t m p D O hR
    refine fine_go O (n := 100000) (q := 4) ?_
    refine fine_ask O (n := 100000) (q := 2) (by kernel_rfl) ?_
    refine fine_ask O (n := 100000) (q := 2) (by kernel_rfl) ?_
    refine fine_ask O (n := 100000) (q := 9) (by kernel_rfl) ?_
    refine fine_ask O (n := 100000) (q := 3) (by kernel_rfl) ?_
    refine fine_ask O (n := 100000) (q := 3) (by kernel_rfl) ?_
    refine fine_ask O (n := 100000) (q := 3) (by kernel_rfl) ?_
    refine fine_ask O (n := 100000) (q := 3) (by kernel_rfl) ?_
    refine fine_ask O (n := 100000) (q := 3) (by kernel_rfl) ?_
    refine fine_ask O (n := 100000) (q := 3) (by kernel_rfl) ?_
    refine fine_ask O (n := 100000) (q := 8) (by kernel_rfl) ?_
    refine fine_ask O (n := 100000) (q := 2) (by kernel_rfl) ?_
    refine fine_ask O (n := 100000) (q := 2) (by kernel_rfl) ?_
    refine fine_ask O (n := 100000) (q := 52) (by kernel_rfl) ?_
    refine fine_ask O (n := 100000) (q := 17) (by kernel_rfl) ?_
    refine fine_tok O (n := 100000) (q := 1000) (by kernel_rfl) (by kernel_rfl) (fun _ => by kernel_rfl) (fun _ _ => by kernel_rfl) ?_
    intro u tk
    exact fine_true (by kernel_rfl) hR
  · intro P t m p D O hR
    refine fine_go O (n := 100000) (q := 4) ?_
    refine fine_ask O (n := 100000) (q := 2) (by kernel_rfl) ?_
    refine fine_ask O (n := 100000) (q := 2) (by kernel_rfl) ?_
    refine fine_ask O (n := 100000) (q := 9) (by kernel_rfl) ?_
    refine fine_ask O (n := 100000) (q := 3) (by kernel_rfl) ?_
    refine fine_ask O (n := 100000) (q := 3) (by kernel_rfl) ?_
    refine fine_ask O (n := 100000) (q := 3) (by kernel_rfl) ?_
    refine fine_ask O (n := 100000) (q := 3) (by kernel_rfl) ?_
    refine fine_ask O (n := 100000) (q := 3) (by kernel_rfl) ?_
    refine fine_ask O (n := 100000) (q := 3) (by kernel_rfl) ?_
    refine fine_ask O (n := 100000) (q := 8) (by kernel_rfl) ?_
    refine fine_ask O (n := 100000) (q := 2) (by kernel_rfl) ?_
    refine fine_ask O (n := 100000) (q := 2) (by kernel_rfl) ?_
    refine fine_ask O (n := 100000) (q := 52) (by kernel_rfl) ?_
    refine fine_ask O (n := 100000) (q := 17) (by kernel_rfl) ?_
    refine fine_tok O (n := 100000) (q := 1000) (by kernel_rfl) (by kernel_rfl) (fun _ => by kernel_rfl) (fun _ _ => by kernel_rfl) ?_
    intro u tk
    exact fine_true (by kernel_rfl) hR
  · intro P t m p D O hR
    refine fine_go O (n := 100000) (q := 4) ?_
    refine fine_ask O (n := 100000) (q := 2) (by kernel_rfl) ?_
    refine fine_ask O (n := 100000) (q := 2) (by kernel_rfl) ?_
    refine fine_ask O (n := 100000) (q := 9) (by kernel_rfl) ?_
    refine fine_ask O (n := 100000) (q := 3) (by kernel_rfl) ?_
    refine fine_ask O (n := 100000) (q := 3) (by kernel_rfl) ?_
    refine fine_ask O (n := 100000) (q := 3) (by kernel_rfl) ?_
    refine fine_ask O (n := 100000) (q := 3) (by kernel_rfl) ?_
    refine fine_ask O (n := 100000) (q := 3) (by kernel_rfl) ?_
    refine fine_ask O (n := 100000) (q := 3) (by kernel_rfl) ?_
    refine fine_ask O (n := 100000) (q := 8) (by kernel_rfl) ?_
    refine fine_ask O (n := 100000) (q := 2) (by kernel_rfl) ?_
    refine fine_ask O (n := 100000) (q := 2) (by kernel_rfl) ?_
    refine fine_ask O (n := 100000) (q := 52) (by kernel_rfl) ?_
    refine fine_ask O (n := 100000) (q := 17) (by kernel_rfl) ?_
    refine fine_tok O (n := 100000) (q := 1000) (by kernel_rfl) (by kernel_rfl) (fun _ => by kernel_rfl) (fun _ _ => by kernel_rfl) ?_
    intro u tk
    exact fine_true (by kernel_rfl) hR
  · intro P t m p D O hR
    refine fine_go O (n := 100000) (q := 4) ?_
    refine fine_ask O (n := 100000) (q := 2) (by kernel_rfl) ?_
    refine fine_ask O (n := 100000) (q := 2) (by kernel_rfl) ?_
    refine fine_ask O (n := 100000) (q := 9) (by kernel_rfl) ?_
    refine fine_ask O (n := 100000) (q := 3) (by kernel_rfl) ?_
    refine fine_ask O (n := 100000) (q := 3) (by kernel_rfl) ?_
    refine fine_ask O (n := 100000) (q := 3) (by kernel_rfl) ?_
    refine fine_ask O (n := 100000) (q := 3) (by kernel_rfl) ?_
    refine fine_ask O (n := 100000) (q := 3) (by kernel_rfl) ?_
    refine fine_ask O (n := 100000) (q := 3) (by kernel_rfl) ?_
    refine fine_ask O (n := 100000) (q := 8) (by kernel_rfl) ?_
    refine fine_ask O (n := 100000) (q := 2) (by kernel_rfl) ?_
    refine fine_ask O (n := 100000) (q := 2) (by kernel_rfl) ?_
    refine fine_ask O (n := 100000) (q := 52) (by kernel_rfl) ?_
    refine fine_ask O (n := 100000) (q := 17) (by kernel_rfl) ?_
    refine fine_tok O (n := 100000) (q := 1000) (by kernel_rfl) (by kernel_rfl) (fun _ => by kernel_rfl) (fun _ _ => by kernel_rfl) ?_
    intro u tk
    exact fine_true (by kernel_rfl) hR
end Mine

namespace Mine
theorem g26 : RunOk 2 ⟨#[72, 79, 85, 82, 76, 89]⟩ ∧
  RunOk 2 ⟨#[77, 105, 110, 117, 116, 101, 108, 121]⟩ ∧
  RunOk 2 ⟨#[87, 69, 69, 75, 76, 89]⟩ ∧
  RunOk 2 ⟨#[89, 69, 65, 82, 76, 89]⟩ := by
  refine ⟨?_, ?_, ?_, ?_⟩
  · intro P t m p D O hR
    refine fine_go O (n := 100000) (q := 4) ?_
    refine fine_ask O (n := 100000) (q := 2) (by kernel_rfl) ?_
    refine fine_ask O (n := 100000) (q := 2) (by kernel_rfl) ?_
    refine fine_ask O (n := 100000) (q := 7) (by kernel_rfl) ?_
    refine fine_contains O (n := 100000) (q := 9) 618 ⟨#[72, 79, 85, 82, 76, 89]⟩ (Nat.add (St.t₀ (V2 P t)) 5) (by kernel_rfl) (by kernel_rfl) ?_
    refine fine_ask O (n := 100000) (q := 2) (by kernel_rfl) ?_
    refine fine_ask O (n := 100000) (q := 2) (by kernel_rfl) ?_
    refine fine_ask O (n := 100000) (q := 52) (by kernel_rfl) ?_
    refine fine_ask O (n := 100000) (q := 4) (by kernel_rfl) ?_
    refine fine_ask O (n := 100000) (q := 2) (by kernel_rfl) ?_
    refine fine_par O (n := 100000) (q := 34) 22 par22 (by kernel_rfl) (by kernel_rfl) (by kernel_rfl) (by kernel_rfl) (by kernel_rfl) ?_
    intro g
    refine fine_ask O (n := 100000) (q := 1) (by kernel_rfl) ?_
    refine fine_same O (n := 100000) (q := 1000) 678 619 (by kernel_rfl) (by kernel_rfl) (by kernel_rfl) ?_
    exact fine_true (by kernel_rfl) hR
  · intro P t m p D O hR
    refine fine_go O (n := 100000) (q := 4) ?_
    refine fine_ask O (n := 100000) (q := 2) (by kernel_rfl) ?_
    refine fine_ask O (n := 100000) (q := 2) (by kernel_rfl) ?_
    refine fine_ask O (n := 100000) (q := 7) (by kernel_rfl) ?_
    refine fine_contains O (n := 100000) (q := 9) 618 ⟨#[77, 73, 78, 85, 84, 69, 76, 89]⟩ (Nat.add (St.t₀ (V2 P t)) 5) (by kernel_rfl) (by kernel_rfl) ?_
    refine fine_ask O (n := 100000) (q := 2) (by kernel_rfl) ?_
    refine fine_ask O (n := 100000) (q := 2) (by kernel_rfl) ?_
    refine fine_ask O (n := 100000) (q := 52) (by kernel_rfl) ?_
    refine fine_ask O (n := 100000) (q := 4) (by kernel_rfl) ?_
    refine fine_ask O (n := 100000) (q := 2) (by kernel_rfl) ?_
    refine fine_par O (n := 100000) (q := 34) 22 par22 (by kernel_rfl) (by kernel_rfl) (by kernel_rfl) (by kernel_rfl) (by kernel_rfl) ?_
    intro g
    refine fine_ask O (n := 100000) (q := 1) (by kernel_rfl) ?_
    refine fine_same O (n := 100000) (q := 1000) 678 619 (by kernel_rfl) (by kernel_rfl) (by kernel_rfl) ?_
    exact fine_true (by kernel_rfl) hR
  · intro P t m p D O hR
    refine fine_go O (n := 100000) (q := 4) ?_
    refine fine_ask O (n := 100000) (q := 2) (by kernel_rfl) ?_
    refine fine_ask O (n := 100000) (q := 2) (by kernel_rfl) ?_
    refine fine_ask O (n := 100000) (q := 7) (by kernel_rfl) ?_
    refine fine_contains O (n := 100000) (q := 9) 618 ⟨#[87, 69, 69, 75, 76, 89]⟩ (Nat.add (St.t₀ (V2 P t)) 5) (by kernel_rfl) (by kernel_rfl) ?_
    refine fine_ask O (n := 100000) (q := 2) (by kernel_rfl) ?_
    refine fine_ask O (n := 100000) (q := 2) (by kernel_rfl) ?_
    refine fine_ask O (n := 100000) (q := 52) (by kernel_rfl) ?_
    refine fine_ask O (n := 100000) (q := 4) (by kernel_rfl) ?_
    refine fine_ask O (n := 100000) (q := 2) (by kernel_rfl) ?_
    refine fine_par O (n := 100000) (q := 34) 22 par22 (by kernel_rfl) (by kernel_rfl) (by kernel_rfl) (by kernel_rfl) (by kernel_rfl) ?_
    intro g
    refine fine_ask O (n := 100000) (q := 1) (by kernel_rfl) ?_
    refine fine_same O (n := 100000) (q := 1000) 678 619 (by kernel_rfl) (by kernel_rfl) (by kernel_rfl) ?_
    exact fine_true (by kernel_rfl) hR
  · intro P t m p D O hR
    refine fine_go O (n := 100000) (q := 4) ?_
    refine fine_ask O (n := 100000) (q := 2) (by kernel_rfl) ?_
    refine fine_ask O (n := 100000) (q := 2) (by kernel_rfl) ?_
    refine fine_ask O (n := 100000) (q := 7) (by kernel_rfl) ?_
    refine fine_contains O (n := 100000) (q := 9) 618 ⟨#[89, 69, 65, 82, 76, 89]⟩ (Nat.add (St.t₀ (V2 P t)) 5) (by kernel_rfl) (by kernel_rfl) ?_
    refine fine_ask O (n := 100000) (q := 2) (by kernel_rfl) ?_
    refine fine_ask O (n := 100000) (q := 2) (by kernel_rfl) ?_
    refine fine_ask O (n := 100000) (q := 52) (by kernel_rfl) ?_
    refine fine_ask O (n := 100000) (q := 4) (by kernel_rfl) ?_
    refine fine_ask O (n := 100000) (q := 2) (by kernel_rfl) ?_
    refine fine_par O (n := 100000) (q := 34) 22 par22 (by kernel_rfl) (by kernel_rfl) (by kernel_rfl) (by kernel_rfl) (by kernel_rfl) ?_
    intro g
    refine fine_ask O (n := 100000) (q := 1) (by kernel_rfl) ?_
    refine fine_same O (n := 100000) (q := 1000) 678 619 (by kernel_rfl) (by kernel_rfl) (by kernel_rfl) ?_
    exact fine_true (by kernel_rfl) hR
end Mine

namespace Mine
theorem g27 : RunOk 2 ⟨#[89, 101, 97, 114, 108, 121]⟩ ∧
  RunOk 2 ⟨#[100, 97, 105, 108, 121]⟩ ∧
  RunOk 2 ⟨#[109, 111, 110, 116, 104, 108, 89]⟩ ∧
  RunOk 2 ⟨#[115, 101, 99, 111, 110, 100, 108, 121]⟩ := by
  refine ⟨?_, ?_, ?_, ?_⟩
  · intro P t m p D O hR
    refine fine_go O (n := 100000) (q := 4) ?_
    refine fine_ask O (n := 100000) (q := 2) (by kernel_rfl) ?_
    refine fine_ask O (n := 100000) (q := 2) (by kernel_rfl) ?_
    refine fine_ask O (n := 100000) (q := 7) (by kernel_rfl) ?_
    refine fine_contains O (n := 100000) (q := 9) 618 ⟨#[89, 69, 65, 82, 76, 89]⟩ (Nat.add (St.t₀ (V2 P t)) 5) (by kernel_rfl) (by kernel_rfl) ?_
    refine fine_ask O (n := 100000) (q := 2) (by kernel_rfl) ?_
    refine fine_ask O (n := 100000) (q := 2) (by kernel_rfl) ?_
    refine fine_ask O (n := 100000) (q := 52) (by kernel_rfl) ?_
    refine fine_ask O (n := 100000) (q := 4) (by kernel_rfl) ?_
    refine fine_ask O (n := 100000) (q := 2) (by kernel_rfl) ?_
    refine fine_par O (n := 100000) (q := 34) 22 par22 (by kernel_rfl) (by kernel_rfl) (by kernel_rfl) (by kernel_rfl) (by kernel_rfl) ?_
    intro g
    refine fine_ask O (n := 100000) (q := 1) (by kernel_rfl) ?_
    refine fine_same O (n := 100000) (q := 1000) 678 619 (by kernel_rfl) (by kernel_rfl) (by kernel_rfl) ?_
    exact fine_true (by kernel_rfl) hR
  · intro P t m p D O hR
    refine fine_go O (n := 100000) (q := 4) ?_
    refine fine_ask O (n := 100000) (q := 2) (by kernel_rfl) ?_
    refine fine_ask O (n := 100000) (q := 2) (by kernel_rfl) ?_
    refine fine_ask O (n := 100000) (q := 7) (by kernel_rfl) ?_
    refine fine_contains O (n := 100000) (q := 9) 618 ⟨#[68, 65, 73, 76, 89]⟩ (Nat.add (St.t₀ (V2 P t)) 5) (by kernel_rfl) (by kernel_rfl) ?_
    refine fine_ask O (n := 100000) (q := 2) (by kernel_rfl) ?_
    refine fine_ask O (n := 100000) (q := 2) (by kernel_rfl) ?_
    refine fine_ask O (n := 100000) (q := 52) (by kernel_rfl) ?_
    refine fine_ask O (n := 100000) (q := 4) (by kernel_rfl) ?_
    refine fine_ask O (n := 100000) (q := 2) (by kernel_rfl) ?_
    refine fine_par O (n := 100000) (q := 34) 22 par22 (by kernel_rfl) (by kernel_rfl) (by kernel_rfl) (by kernel_rfl) (by kernel_rfl) ?_
    intro g
    refine fine_ask O (n := 100000) (q := 1) (by kernel_rfl) ?_
    refine fine_same O (n := 100000) (q := 1000) 678 619 (by kernel_rfl) (by kernel_rfl) (by kernel_rfl) ?_
    exact fine_true (by kernel_rfl) hR
  · intro P t m p D O hR
    refine fine_go O (n := 100000) (q := 4) ?_
    refine fine_ask O (n := 100000) (q := 2) (by kernel_rfl) ?_
    refine fine_ask O (n := 100000) (q := 2) (by kernel_rfl) ?_
    refine fine_ask O (n := 100000) (q := 7) (by kernel_rfl) ?_
    refine fine_contains O (n := 100000) (q := 9) 618 ⟨#[77, 79, 78, 84, 72, 76, 89]⟩ (Nat.add (St.t₀ (V2 P t)) 5) (by kernel_rfl) (by kernel_rfl) ?_
    refine fine_ask O (n := 100000) (q := 2) (by kernel_rfl) ?_
    refine fine_ask O (n := 100000) (q := 2) (by kernel_rfl) ?_
    refine fine_ask O (n := 100000) (q := 52) (by kernel_rfl) ?_
    refine fine_ask O (n := 100000) (q := 4) (by kernel_rfl) ?_
    refine fine_ask O (n := 100000) (q := 2) (by kernel_rfl) ?_
    refine fine_par O (n := 100000) (q := 34) 22 par22 (by kernel_rfl) (by kernel_rfl) (by kernel_rfl) (by kernel_rfl) (by kernel_rfl) ?_
    intro g
    refine fine_ask O (n := 100000) (q := 1) (by kernel_rfl) ?_
    refine fine_same O (n := 100000) (q := 1000) 678 619 (by kernel_rfl) (by kernel_rfl) (by kernel_rfl) ?_
    exact fine_true (by kernel_rfl) hR
  · intro P t m p D O hR
    refine fine_go O (n := 100000) (q := 4) ?_
    refine fine_ask O (n := 100000) (q := 2) (by kernel_rfl) ?_
    refine fine_ask O (n := 100000) (q := 2) (by kernel_rfl) ?_
    refine fine_ask O (n := 100000) (q := 7) (by kernel_rfl) ?_
    refine fine_contains O (n := 100000) (q := 9) 618 ⟨#[83, 69, 67, 79, 78, 68, 76, 89]⟩ (Nat.add (St.t₀ (V2 P t)) 5) (by kernel_rfl) (by kernel_rfl) ?_
    refine fine_ask O (n := 100000) (q := 2) (by kernel_rfl) ?_
    refine fine_ask O (n := 100000) (q := 2) (by kernel_rfl) ?_
    refine fine_ask O (n := 100000) (q := 52) (by kernel_rfl) ?_
    refine fine_ask O (n := 100000) (q := 4) (by kernel_rfl) ?_
    refine fine_ask O (n := 100000) (q := 2) (by kernel_rfl) ?_
    refine fine_par O (n := 100000) (q := 34) 22 par22 (by kernel_rfl) (by kernel_rfl) (by kernel_rfl) (by kernel_rfl) (by kernel_rfl) ?_
    intro g
    refine fine_ask O (n := 100000) (q := 1) (by kernel_rfl) ?_
    refine fine_same O (n := 100000) (q := 1000) 678 619 (by kernel_rfl) (by kernel_rfl) (by kernel_rfl) ?_
    exact fine_true (by kernel_rfl) hR
end Mine

namespace Mine
theorem g28 : RunOk 3 ⟨#[45, 50, 49, 52, 55, 52, 56, 51, 54, 52, 57]⟩ ∧
  RunOk 3 ⟨#[45, 57, 57, 57, 57, 57, 57, 57, 57, 57, 57, 57]⟩ ∧
  RunOk 3 ⟨#[43, 50, 49, 52, 55, 52, 56, 51, 54, 52, 56]⟩ ∧
  RunOk 3 ⟨#[43, 50, 49, 52, 55, 52, 56, 51, 54, 52, 57]⟩ ∧
  RunOk 3 ⟨#[43, 57, 57, 57, 57, 57, 57, 57, 57, 57, 57, 57]⟩ ∧
  RunOk 3 ⟨#[50, 49, 52, 55, 52, 56, 51, 54, 52, 56]⟩ ∧
  RunOk 3 ⟨#[50, 49, 52, 55, 52, 56, 51, 54, 52, 57]⟩ ∧
  RunOk 3 ⟨#[57, 57, 57, 57, 57, 57, 57, 57, 57, 57, 57]⟩ := by
  refine ⟨?_, ?_, ?_, ?_, ?_, ?_, ?_, ?_⟩
  · intro P t m p D O hR
    refine fine_go O (n := 100000) (q := 4) ?_
    refine fine_ask O (n := 100000) (q := 2) (by kernel_rfl) ?_
    refine fine_ask O (n := 100000) (q := 2) (by kernel_rfl) ?_
    refine fine_ask O (n := 100000) (q := 7) (by kernel_rfl) ?_
    refine fine_ask O (n := 100000) (q := 4) (by kernel_rfl) ?_
    refine fine_ask O (n := 100000) (q := 8) (by kernel_rfl) ?_
    refine fine_ask O (n := 100000) (q := 2) (by kernel_rfl) ?_
    refine fine_ask O (n := 100000) (q := 2) (by kernel_rfl) ?_
    refine fine_call O (n := 100000) (n' := 100000) (q := 0) (fun b c => by cases b <;> cases c <;> kernel_rfl) ?_
    refine fine_ask O (n := 100000) (q := 5) (by kernel_rfl) ?_
    refine fine_ask O (n := 100000) (q := 13) (by kernel_rfl) ?_
    refine fine_ask O (n := 100000) (q := 7) (by kernel_rfl) ?_
    refine fine_ask O (n := 100000) (q := 2) (by kernel_rfl) ?_
    refine fine_ask O (n := 100000) (q := 2) (by kernel_rfl) ?_
    refine fine_ask O (n := 100000) (q := 45) (by kernel_rfl) ?_
    refine fine_par O (n := 100000) (q := 5) 34 par34 (by kernel_rfl) (by kernel_rfl) (by kernel_rfl) (by kernel_rfl) (by kernel_rfl) ?_
    intro g
    refine fine_ask O (n := 100000) (q := 6) (by kernel_rfl) ?_
    refine fine_ask O (n := 100000) (q := 1000) (by kernel_rfl) ?_
    exact fine_true (by kernel_rfl) hR
  · intro P t m p D O hR
    refine fine_go O (n := 100000) (q := 4) ?_
    refine fine_ask O (n := 100000) (q := 2) (by kernel_rfl) ?_
    refine fine_ask O (n := 100000) (q := 2) (by kernel_rfl) ?_
    refine fine_ask O (n := 100000) (q := 7) (by kernel_rfl) ?_
    refine fine_ask O (n := 100000) (q := 4) (by kernel_rfl) ?_
    refine fine_ask O (n := 100000) (q := 8) (by kernel_rfl) ?_
    refine fine_ask O (n := 100000) (q := 2) (by kernel_rfl) ?_
    refine fine_ask O (n := 100000) (q := 2) (by kernel_rfl) ?_
    refine fine_call O (n := 100000) (n' := 100000) (q := 0) (fun b c => by cases b <;> cases c <;> kernel_rfl) ?_
    refine fine_ask O (n := 100000) (q := 5) (by kernel_rfl) ?_
    refine fine_ask O (n := 100000) (q := 13) (by kernel_rfl) ?_
    refine fine_ask O (n := 100000) (q := 7) (by kernel_rfl) ?_
    refine fine_ask O (n := 100000) (q := 2) (by kernel_rfl) ?_
    refine fine_ask O (n := 100000) (q := 2) (by kernel_rfl) ?_
    refine fine_ask O (n := 100000) (q := 45) (by kernel_rfl) ?_
    refine fine_par O (n := 100000) (q := 5) 34 par34 (by kernel_rfl) (by kernel_rfl) (by kernel_rfl) (by kernel_rfl) (by kernel_rfl) ?_
    intro g
    refine fine_ask O (n := 100000) (q := 6) (by kernel_rfl) ?_
    refine fine_ask O (n := 100000) (q := 1000) (by kernel_rfl) ?_
    exact fine_true (by kernel_rfl) hR
  · intro P t m p D O hR
    refine fine_go O (n := 100000) (q := 4) ?_
    refine fine_ask O (n := 100000) (q := 2) (by kernel_rfl) ?_
    refine fine_ask O (n := 100000) (q := 2) (by kernel_rfl) ?_
    refine fine_ask O (n := 100000) (q := 7) (by kernel_rfl) ?_
    refine fine_ask O (n := 100000) (q := 8) (by kernel_rfl) ?_
    refine fine_ask O (n := 100000) (q := 2) (by kernel_rfl) ?_
    refine fine_ask O (n := 100000) (q := 2) (by kernel_rfl) ?_
    refine fine_call O (n := 100000) (n' := 100000) (q := 0) (fun b c => by cases b <;> cases c <;> kernel_rfl) ?_
    refine fine_ask O (n := 100000) (q := 5) (by kernel_rfl) ?_
    refine fine_ask O (n := 100000) (q := 11) (by kernel_rfl) ?_
    refine fine_ask O (n := 100000) (q := 2) (by kernel_rfl) ?_
    refine fine_ask O (n := 100000) (q := 7) (by kernel_rfl) ?_
    refine fine_ask O (n := 100000) (q := 2) (by kernel_rfl) ?_
    refine fine_ask O (n := 100000) (q := 2) (by kernel_rfl) ?_
    refine fine_ask O (n := 100000) (q := 45) (by kernel_rfl) ?_
    refine fine_par O (n := 100000) (q := 5) 33 par33 (by kernel_rfl) (by kernel_rfl) (by kernel_rfl) (by kernel_rfl) (by kernel_rfl) ?_
    intro g
    refine fine_ask O (n := 100000) (q := 4) (by kernel_rfl) ?_
    refine fine_ask O (n := 100000) (q := 6) (by kernel_rfl) ?_
    refine fine_ask O (n := 100000) (q := 1000) (by kernel_rfl) ?_
    exact fine_true (by kernel_rfl) hR
  · intro P t m p D O hR
    refine fine_go O (n := 100000) (q := 4) ?_
    refine fine_ask O (n := 100000) (q := 2) (by kernel_rfl) ?_
    refine fine_ask O (n := 100000) (q := 2) (by kernel_rfl) ?_
    refine fine_ask O (n := 100000) (q := 7) (by kernel_rfl) ?_
    refine fine_ask O (n := 100000) (q := 8) (by kernel_rfl) ?_
    refine fine_ask O (n := 100000) (q := 2) (by kernel_rfl) ?_
    refine fine_ask O (n := 100000) (q := 2) (by kernel_rfl) ?_
    refine fine_call O (n := 100000) (n' := 100000) (q := 0) (fun b c => by cases b <;> cases c <;> kernel_rfl) ?_
    refine fine_ask O (n := 100000) (q := 5) (by kernel_rfl) ?_
    refine fine_ask O (n := 100000) (q := 11) (by kernel_rfl) ?_
    refine fine_ask O (n := 100000) (q := 2) (by kernel_rfl) ?_
    refine fine_ask O (n := 100000) (q := 7) (by kernel_rfl) ?_
    refine fine_ask O (n := 100000) (q := 2) (by kernel_rfl) ?_
    refine fine_ask O (n := 100000) (q := 2) (by kernel_rfl) ?_
    refine fine_ask O (n := 100000) (q := 45) (by kernel_rfl) ?_
    refine fine_par O (n := 100000) (q := 5) 33 par33 (by kernel_rfl) (by kernel_rfl) (by kernel_rfl) (by kernel_rfl) (by kernel_rfl) ?_
    intro g
    refine fine_ask O (n := 100000) (q := 4) (by kernel_rfl) ?_
    refine fine_ask O (n := 100000) (q := 6) (by kernel_rfl) ?_
    refine fine_ask O (n := 100000) (q := 1000) (by kernel_rfl) ?_
    exact fine_true (by kernel_rfl) hR
  · intro P t m p D O hR
    refine fine_go O (n := 100000) (q := 4) ?_
    refine fine_ask O (n := 100000) (q := 2) (by kernel_rfl) ?_
    refine fine_ask O (n := 100000) (q := 2) (by kernel_rfl) ?_
    refine fine_ask O (n := 100000) (q := 7) (by kernel_rfl) ?_
    refine fine_ask O (n := 100000) (q := 8) (by kernel_rfl) ?_
    refine fine_ask O (n := 100000) (q := 2) (by kernel_rfl) ?_
    refine fine_ask O (n := 100000) (q := 2) (by kernel_rfl) ?_
    refine fine_call O (n := 100000) (n' := 100000) (q := 0) (fun b c => by cases b <;> cases c <;> kernel_rfl) ?_
    refine fine_ask O (n := 100000) (q := 5) (by kernel_rfl) ?_
    refine fine_ask O (n := 100000) (q := 11) (by kernel_rfl) ?_
    refine fine_ask O (n := 100000) (q := 2) (by kernel_rfl) ?_
    refine fine_ask O (n := 100000) (q := 7) (by kernel_rfl) ?_
    refine fine_ask O (n := 100000) (q := 2) (by kernel_rfl) ?_
    refine fine_ask O (n := 100000) (q := 2) (by kernel_rfl) ?_
    refine fine_ask O (n := 100000) (q := 45) (by kernel_rfl) ?_
    refine fine_par O (n := 100000) (q := 5) 33 par33 (by kernel_rfl) (by kernel_rfl) (by kernel_rfl) (by kernel_rfl) (by kernel_rfl) ?_
    intro g
    refine fine_ask O (n := 100000) (q := 4) (by kernel_rfl) ?_
    refine fine_ask O (n := 100000) (q := 6) (by kernel_rfl) ?_
    refine fine_ask O (n := 100000) (q := 1000) (by kernel_rfl) ?_
    exact fine_true (by kernel_rfl) hR
  · intro P t m p D O hR
    refine fine_go O (n := 100000) (q := 4) ?_
    refine fine_ask O (n := 100000) (q := 2) (by kernel_rfl) ?_
    refine fine_ask O (n := 100000) (q := 2) (by kernel_rfl) ?_
    refine fine_ask O (n := 100000) (q := 7) (by kernel_rfl) ?_
    refine fine_ask O (n := 100000) (q := 4) (by kernel_rfl) ?_
    refine fine_ask O (n := 100000) (q := 6) (by kernel_rfl) ?_
    refine fine_ask O (n := 100000) (q := 2) (by kernel_rfl) ?_
    refine fine_ask O (n := 100000) (q := 2) (by kernel_rfl) ?_
    refine fine_call O (n := 100000) (n' := 100000) (q := 0) (fun b c => by cases b <;> cases c <;> kernel_rfl) ?_
    refine fine_ask O (n := 100000) (q := 5) (by kernel_rfl) ?_
    refine fine_ask O (n := 100000) (q := 11) (by kernel_rfl) ?_
    refine fine_ask O (n := 100000) (q := 2) (by kernel_rfl) ?_
    refine fine_ask O (n := 100000) (q := 7) (by kernel_rfl) ?_
    refine fine_ask O (n := 100000) (q := 2) (by kernel_rfl) ?_
    refine fine_ask O (n := 100000) (q := 2) (by kernel_rfl) ?_
    refine fine_ask O (n := 100000) (q := 45) (by kernel_rfl) ?_
    refine fine_par O (n := 100000) (q := 5) 33 par33 (by kernel_rfl) (by kernel_rfl) (by kernel_rfl) (by kernel_rfl) (by kernel_rfl) ?_
    intro g
    refine fine_ask O (n := 100000) (q := 4) (by kernel_rfl) ?_
    refine fine_ask O (n := 100000) (q := 6) (by kernel_rfl) ?_
    refine fine_ask O (n := 100000) (q := 1000) (by kernel_rfl) ?_
    exact fine_true (by kernel_rfl) hR
  · intro P t m p D O hR
    refine fine_go O (n := 100000) (q := 4) ?_
    refine fine_ask O (n := 100000) (q := 2) (by kernel_rfl) ?_
    refine fine_ask O (n := 100000) (q := 2) (by kernel_rfl) ?_
    refine fine_ask O (n := 100000) (q := 7) (by kernel_rfl) ?_
    refine fine_ask O (n := 100000) (q := 4) (by kernel_rfl) ?_
    refine fine_ask O (n := 100000) (q := 6) (by kernel_rfl) ?_
    refine fine_ask O (n := 100000) (q := 2) (by kernel_rfl) ?_
    refine fine_ask O (n := 100000) (q := 2) (by kernel_rfl) ?_
    refine fine_call O (n := 100000) (n' := 100000) (q := 0) (fun b c => by cases b <;> cases c <;> kernel_rfl) ?_
    refine fine_ask O (n := 100000) (q := 5) (by kernel_rfl) ?_
    refine fine_ask O (n := 100000) (q := 11) (by kernel_rfl) ?_
    refine fine_ask O (n := 100000) (q := 2) (by kernel_rfl) ?_
    refine fine_ask O (n := 100000) (q := 7) (by kernel_rfl) ?_
    refine fine_ask O (n := 100000) (q := 2) (by kernel_rfl) ?_
    refine fine_ask O (n := 100000) (q := 2) (by kernel_rfl) ?_
    refine fine_ask O (n := 100000) (q := 45) (by kernel_rfl) ?_
    refine fine_par O (n := 100000) (q := 5) 33 par33 (by kernel_rfl) (by kernel_rfl) (by kernel_rfl) (by kernel_rfl) (by kernel_rfl) ?_
    intro g
    refine fine_ask O (n := 100000) (q := 4) (by kernel_rfl) ?_
    refine fine_ask O (n := 100000) (q := 6) (by kernel_rfl) ?_
    refine fine_ask O (n := 100000) (q := 1000) (by kernel_rfl) ?_
    exact fine_true (by kernel_rfl) hR
  · intro P t m p D O hR
    refine fine_go O (n := 100000) (q := 4) ?_
    refine fine_ask O (n := 100000) (q := 2) (by kernel_rfl) ?_
    refine fine_ask O (n := 100000) (q := 2) (by kernel_rfl) ?_
    refine fine_ask O (n := 100000) (q := 7) (by kernel_rfl) ?_
    refine fine_ask O (n := 100000) (q := 4) (by kernel_rfl) ?_
    refine fine_ask O (n := 100000) (q := 6) (by kernel_rfl) ?_
    refine fine_ask O (n := 100000) (q := 2) (by kernel_rfl) ?_
    refine fine_ask O (n := 100000) (q := 2) (by kernel_rfl) ?_
    refine fine_call O (n := 100000) (n' := 100000) (q := 0) (fun b c => by cases b <;> cases c <;> kernel_rfl) ?_
    refine fine_ask O (n := 100000) (q := 5) (by kernel_rfl) ?_
    refine fine_ask O (n := 100000) (q := 11) (by kernel_rfl) ?_
    refine fine_ask O (n := 100000) (q := 2) (by kernel_rfl) ?_
    refine fine_ask O (n := 100000) (q := 7) (by kernel_rfl) ?_
    refine fine_ask O (n := 100000) (q := 2) (by kernel_rfl) ?_
    refine fine_ask O (n := 100000) (q := 2) (by kernel_rfl) ?_
    refine fine_ask O (n := 100000) (q := 45) (by kernel_rfl) ?_
    refine fine_par O (n := 100000) (q := 5) 33 par33 (by kernel_rfl) (by kernel_rfl) (by kernel_rfl) (by kernel_rfl) (by kernel_rfl) ?_
    intro g
    refine fine_ask O (n := 100000) (q := 4) (by kernel_rfl) ?_
    refine fine_ask O (n := 100000) (q := 6) (by kernel_rfl) ?_
    refine fine_ask O (n := 100000) (q := 1000) (by kernel_rfl) ?_
    exact fine_true (by kernel_rfl) hR
end Mine

namespace Mine
theorem g29 : RunOk 3 ⟨#[43]⟩ ∧
  RunOk 3 ⟨#[]⟩ ∧
  RunOk 3 ⟨#[45]⟩ ∧
  RunOk 3 ⟨#[43, 49, 120]⟩ ∧
  RunOk 3 ⟨#[49, 120]⟩ ∧
  RunOk 3 ⟨#[120]⟩ ∧
  RunOk 3 ⟨#[120, 48]⟩ ∧
  RunOk 3 ⟨#[120, 48, 48, 55]⟩ ∧
  RunOk 3 ⟨#[120, 49, 50]⟩ := by
  refine ⟨?_, ?_, ?_, ?_, ?_, ?_, ?_, ?_, ?_⟩
  · intro P t m p D O hR
    refine fine_go O (n := 100000) (q := 4) ?_
    refine fine_ask O (n := 100000) (q := 2) (by kernel_rfl) ?_
    refine fine_ask O (n := 100000) (q := 2) (by kernel_rfl) ?_
    refine fine_ask O (n := 100000) (q := 7) (by kernel_rfl) ?_
    refine fine_ask O (n := 100000) (q := 8) (by kernel_rfl) ?_
    refine fine_ask O (n := 100000) (q := 8) (by kernel_rfl) ?_
    refine fine_ask O (n := 100000) (q := 2) (by kernel_rfl) ?_
    refine fine_ask O (n := 100000) (q := 2) (by kernel_rfl) ?_
    refine fine_ask O (n := 100000) (q := 15) (by kernel_rfl) ?_
    refine fine_ask O (n := 100000) (q := 5) (by kernel_rfl) ?_
    refine fine_tok O (n := 100000) (q := 1000) (by kernel_rfl) (by kernel_rfl) (fun _ => by kernel_rfl) (fun _ _ => by kernel_rfl) ?_
    intro u tk
    exact fine_true (by kernel_rfl) hR
  · intro P t m p D O hR
    refine fine_go O (n := 100000) (q := 4) ?_
    refine fine_ask O (n := 100000) (q := 2) (by kernel_rfl) ?_
    refine fine_ask O (n := 100000) (q := 2) (by kernel_rfl) ?_
    refine fine_ask O (n := 100000) (q := 7) (by kernel_rfl) ?_
    refine fine_ask O (n := 100000) (q := 4) (by kernel_rfl) ?_
    refine fine_ask O (n := 100000) (q := 6) (by kernel_rfl) ?_
    refine fine_ask O (n := 100000) (q := 8) (by kernel_rfl) ?_
    refine fine_ask O (n := 100000) (q := 2) (by kernel_rfl) ?_
    refine fine_ask O (n := 100000) (q := 2) (by kernel_rfl) ?_
    refine fine_ask O (n := 100000) (q := 15) (by kernel_rfl) ?_
    refine fine_ask O (n := 100000) (q := 5) (by kernel_rfl) ?_
    refine fine_tok O (n := 100000) (q := 1000) (by kernel_rfl) (by kernel_rfl) (fun _ => by kernel_rfl) (fun _ _ => by kernel_rfl) ?_
    intro u tk
    exact fine_true (by kernel_rfl) hR
  · intro P t m p D O hR
    refine fine_go O (n := 100000) (q := 4) ?_
    refine fine_ask O (n := 100000) (q := 2) (by kernel_rfl) ?_
    refine fine_ask O (n := 100000) (q := 2) (by kernel_rfl) ?_
    refine fine_ask O (n := 100000) (q := 7) (by kernel_rfl) ?_
    refine fine_ask O (n := 100000) (q := 4) (by kernel_rfl) ?_
    refine fine_ask O (n := 100000) (q := 8) (by kernel_rfl) ?_
    refine fine_ask O (n := 100000) (q := 8) (by kernel_rfl) ?_
    refine fine_ask O (n := 100000) (q := 2) (by kernel_rfl) ?_
    refine fine_ask O (n := 100000) (q := 2) (by kernel_rfl) ?_
    refine fine_ask O (n := 100000) (q := 15) (by kernel_rfl) ?_
    refine fine_ask O (n := 100000) (q := 5) (by kernel_rfl) ?_
    refine fine_tok O (n := 100000) (q := 1000) (by kernel_rfl) (by kernel_rfl) (fun _ => by kernel_rfl) (fun _ _ => by kernel_rfl) ?_
    intro u tk
    exact fine_true (by kernel_rfl) hR
  · intro P t m p D O hR
    refine fine_go O (n := 100000) (q := 4) ?_
    refine fine_ask O (n := 100000) (q := 2) (by kernel_rfl) ?_
    refine fine_ask O (n := 100000) (q := 2) (by kernel_rfl) ?_
    refine fine_ask O (n := 100000) (q := 7) (by kernel_rfl) ?_
    refine fine_ask O (n := 100000) (q := 8) (by kernel_rfl) ?_
    refine fine_ask O (n := 100000) (q := 2) (by kernel_rfl) ?_
    refine fine_ask O (n := 100000) (q := 2) (by kernel_rfl) ?_
    refine fine_call O (n := 100000) (n' := 100000) (q := 0) (fun b c => by cases b <;> cases c <;> kernel_rfl) ?_
    refine fine_ask O (n := 100000) (q := 8) (by kernel_rfl) ?_
    refine fine_ask O (n := 100000) (q := 2) (by kernel_rfl) ?_
    refine fine_ask O (n := 100000) (q := 2) (by kernel_rfl) ?_
    refine fine_ask O (n := 100000) (q := 15) (by kernel_rfl) ?_
    refine fine_ask O (n := 100000) (q := 5) (by kernel_rfl) ?_
    refine fine_tok O (n := 100000) (q := 1000) (by kernel_rfl) (by kernel_rfl) (fun _ => by kernel_rfl) (fun _ _ => by kernel_rfl) ?_
    intro u tk
    exact fine_true (by kernel_rfl) hR
  · intro P t m p D O hR
    refine fine_go O (n := 100000) (q := 4) ?_
    refine fine_ask O (n := 100000) (q := 2) (by kernel_rfl) ?_
    refine fine_ask O (n := 100000) (q := 2) (by kernel_rfl) ?_
    refine fine_ask O (n := 100000) (q := 7) (by kernel_rfl) ?_
    refine fine_ask O (n := 100000) (q := 4) (by kernel_rfl) ?_
    refine fine_ask O (n := 100000) (q := 6) (by kernel_rfl) ?_
    refine fine_ask O (n := 100000) (q := 2) (by kernel_rfl) ?_
    refine fine_ask O (n := 100000) (q := 2) (by kernel_rfl) ?_
    refine fine_call O (n := 100000) (n' := 100000) (q := 0) (fun b c => by cases b <;> cases c <;> kernel_rfl) ?_
    refine fine_ask O (n := 100000) (q := 8) (by kernel_rfl) ?_
    refine fine_ask O (n := 100000) (q := 2) (by kernel_rfl) ?_
    refine fine_ask O (n := 100000) (q := 2) (by kernel_rfl) ?_
    refine fine_ask O (n := 100000) (q := 15) (by kernel_rfl) ?_
    refine fine_ask O (n := 100000) (q := 5) (by kernel_rfl) ?_
    refine fine_tok O (n := 100000) (q := 1000) (by kernel_rfl) (by kernel_rfl) (fun _ => by kernel_rfl) (fun _ _ => by kernel_rfl) ?_
    intro u tk
    exact fine_true (by kernel_rfl) hR
  · intro P t m p D O hR
    refine fine_go O (n := 100000) (q := 4) ?_
    refine fine_ask O (n := 100000) (q := 2) (by kernel_rfl) ?_
    refine fine_ask O (n := 100000) (q := 2) (by kernel_rfl) ?_
    refine fine_ask O (n := 100000) (q := 7) (by kernel_rfl) ?_
    refine fine_ask O (n := 100000) (q := 4) (by kernel_rfl) ?_
    refine fine_ask O (n := 100000) (q := 6) (by kernel_rfl) ?_
    refine fine_ask O (n := 100000) (q := 2) (by kernel_rfl) ?_
    refine fine_ask O (n := 100000) (q := 2) (by kernel_rfl) ?_
    refine fine_call O (n := 100000) (n' := 100000) (q := 0) (fun b c => by cases b <;> cases c <;> kernel_rfl) ?_
    refine fine_ask O (n := 100000) (q := 8) (by kernel_rfl) ?_
    refine fine_ask O (n := 100000) (q := 2) (by kernel_rfl) ?_
    refine fine_ask O (n := 100000) (q := 2) (by kernel_rfl) ?_
    refine fine_ask O (n := 100000) (q := 15) (by kernel_rfl) ?_
    refine fine_ask O (n := 100000) (q := 5) (by kernel_rfl) ?_
    refine fine_tok O (n := 100000) (q := 1000) (by kernel_rfl) (by kernel_rfl) (fun _ => by kernel_rfl) (fun _ _ => by kernel_rfl) ?_
    intro u tk
    exact fine_true (by kernel_rfl) hR
  · intro P t m p D O hR
    refine fine_go O (n := 100000) (q := 4) ?_
    refine fine_ask O (n := 100000) (q := 2) (by kernel_rfl) ?_
    refine fine_ask O (n := 100000) (q := 2) (by kernel_rfl) ?_
    refine fine_ask O (n := 100000) (q := 7) (by kernel_rfl) ?_
    refine fine_ask O (n := 100000) (q := 4) (by kernel_rfl) ?_
    refine fine_ask O (n := 100000) (q := 6) (by kernel_rfl) ?_
    refine fine_ask O (n := 100000) (q := 2) (by kernel_rfl) ?_
    refine fine_ask O (n := 100000) (q := 2) (by kernel_rfl) ?_
    refine fine_call O (n := 100000) (n' := 100000) (q := 0) (fun b c => by cases b <;> cases c <;> kernel_rfl) ?_
    refine fine_ask O (n := 100000) (q := 8) (by kernel_rfl) ?_
    refine fine_ask O (n := 100000) (q := 2) (by kernel_rfl) ?_
    refine fine_ask O (n := 100000) (q := 2) (by kernel_rfl) ?_
    refine fine_ask O (n := 100000) (q := 15) (by kernel_rfl) ?_
    refine fine_ask O (n := 100000) (q := 5) (by kernel_rfl) ?_
    refine fine_tok O (n := 100000) (q := 1000) (by kernel_rfl) (by kernel_rfl) (fun _ => by kernel_rfl) (fun _ _ => by kernel_rfl) ?_
    intro u tk
    exact fine_true (by kernel_rfl) hR
  · intro P t m p D O hR
    refine fine_go O (n := 100000) (q := 4) ?_
    refine fine_ask O (n := 100000) (q := 2) (by kernel_rfl) ?_
    refine fine_ask O (n := 100000) (q := 2) (by kernel_rfl) ?_
    refine fine_ask O (n := 100000) (q := 7) (by kernel_rfl) ?_
    refine fine_ask O (n := 100000) (q := 4) (by kernel_rfl) ?_
    refine fine_ask O (n := 100000) (q := 6) (by kernel_rfl) ?_
    refine fine_ask O (n := 100000) (q := 2) (by kernel_rfl) ?_
    refine fine_ask O (n := 100000) (q := 2) (by kernel_rfl) ?_
    refine fine_call O (n := 100000) (n' := 100000) (q := 0) (fun b c => by cases b <;> cases c <;> kernel_rfl) ?_
    refine fine_ask O (n := 100000) (q := 8) (by kernel_rfl) ?_
    refine fine_ask O (n := 100000) (q := 2) (by kernel_rfl) ?_
    refine fine_ask O (n := 100000) (q := 2) (by kernel_rfl) ?_
    refine fine_ask O (n := 100000) (q := 15) (by kernel_rfl) ?_
    refine fine_ask O (n := 100000) (q := 5) (by kernel_rfl) ?_
    refine fine_tok O (n := 100000) (q := 1000) (by kernel_rfl) (by kernel_rfl) (fun _ => by kernel_rfl) (fun _ _ => by kernel_rfl) ?_
    intro u tk
    exact fine_true (by kernel_rfl) hR
  · intro P t m p D O hR
    refine fine_go O (n := 100000) (q := 4) ?_
    refine fine_ask O (n := 100000) (q := 2) (by kernel_rfl) ?_
    refine fine_ask O (n := 100000) (q := 2) (by kernel_rfl) ?_
    refine fine_ask O (n := 100000) (q := 7) (by kernel_rfl) ?_
    refine fine_ask O (n := 100000) (q := 4) (by kernel_rfl) ?_
    refine fine_ask O (n := 100000) (q := 6) (by kernel_rfl) ?_
    refine fine_ask O (n := 100000) (q := 2) (by kernel_rfl) ?_
    refine fine_ask O (n := 100000) (q := 2) (by kernel_rfl) ?_
    refine fine_call O (n := 100000) (n' := 100000) (q := 0) (fun b c => by cases b <;> cases c <;> kernel_rfl) ?_
    refine fine_ask O (n := 100000) (q := 8) (by kernel_rfl) ?_
    refine fine_ask O (n := 100000) (q := 2) (by kernel_rfl) ?_
    refine fine_ask O (n := 100000) (q := 2) (by kernel_rfl) ?_
    refine fine_ask O (n := 100000) (q := 15) (by kernel_rfl) ?_
    refine fine_ask O (n := 100000) (q := 5) (by kernel_rfl) ?_
    refine fine_tok O (n := 100000) (q := 1000) (by kernel_rfl) (by kernel_rfl) (fun _ => by kernel_rfl) (fun _ _ => by kernel_rfl) ?_
    intro u tk
    exact fine_true (by kernel_rfl) hR
end Mine

namespace Mine
theorem g30 : RunOk 3 ⟨#[120, 49, 120]⟩ ∧
  RunOk 3 ⟨#[120, 50, 49, 52, 55, 52, 56, 51, 54, 52, 55]⟩ ∧
  RunOk 3 ⟨#[120, 50, 49, 52, 55, 52, 56, 51, 54, 52, 56]⟩ ∧
  RunOk 3 ⟨#[120, 50, 49, 52, 55, 52, 56, 51, 54, 52, 57]⟩ ∧
  RunOk 3 ⟨#[120, 55]⟩ ∧
  RunOk 3 ⟨#[120, 57, 57, 57, 57, 57, 57, 57, 57, 57, 57, 57]⟩ ∧
  RunOk 3 ⟨#[45, 45]⟩ ∧
  RunOk 3 ⟨#[45, 45, 48]⟩ ∧
  RunOk 3 ⟨#[45, 45, 48, 48, 55]⟩ := by
  refine ⟨?_, ?_, ?_, ?_, ?_, ?_, ?_, ?_, ?_⟩
  · intro P t m p D O hR
    refine fine_go O (n := 100000) (q := 4) ?_
    refine fine_ask O (n := 100000) (q := 2) (by kernel_rfl) ?_
    refine fine_ask O (n := 100000) (q := 2) (by kernel_rfl) ?_
    refine fine_ask O (n := 100000) (q := 7) (by kernel_rfl) ?_
    refine fine_ask O (n := 100000) (q := 4) (by kernel_rfl) ?_
    refine fine_ask O (n := 100000) (q := 6) (by kernel_rfl) ?_
    refine fine_ask O (n := 100000) (q := 2) (by kernel_rfl) ?_
    refine fine_ask O (n := 100000) (q := 2) (by kernel_rfl) ?_
    refine fine_call O (n := 100000) (n' := 100000) (q := 0) (fun b c => by cases b <;> cases c <;> kernel_rfl) ?_
    refine fine_ask O (n := 100000) (q := 8) (by kernel_rfl) ?_
    refine fine_ask O (n := 100000) (q := 2) (by kernel_rfl) ?_
    refine fine_ask O (n := 100000) (q := 2) (by kernel_rfl) ?_
    refine fine_ask O (n := 100000) (q := 15) (by kernel_rfl) ?_
    refine fine_ask O (n := 100000) (q := 5) (by kernel_rfl) ?_
    refine fine_tok O (n := 100000) (q := 1000) (by kernel_rfl) (by kernel_rfl) (fun _ => by kernel_rfl) (fun _ _ => by kernel_rfl) ?_
    intro u tk
    exact fine_true (by kernel_rfl) hR
  · intro P t m p D O hR
    refine fine_go O (n := 100000) (q := 4) ?_
    refine fine_ask O (n := 100000) (q := 2) (by kernel_rfl) ?_
    refine fine_ask O (n := 100000) (q := 2) (by kernel_rfl) ?_
    refine fine_ask O (n := 100000) (q := 7) (by kernel_rfl) ?_
    refine fine_ask O (n := 100000) (q := 4) (by kernel_rfl) ?_
    refine fine_ask O (n := 100000) (q := 6) (by kernel_rfl) ?_
    refine fine_ask O (n := 100000) (q := 2) (by kernel_rfl) ?_
    refine fine_ask O (n := 100000) (q := 2) (by kernel_rfl) ?_
    refine fine_call O (n := 100000) (n' := 100000) (q := 0) (fun b c => by cases b <;> cases c <;> kernel_rfl) ?_
    refine fine_ask O (n := 100000) (q := 8) (by kernel_rfl) ?_
    refine fine_ask O (n := 100000) (q := 2) (by kernel_rfl) ?_
    refine fine_ask O (n := 100000) (q := 2) (by kernel_rfl) ?_
    refine fine_ask O (n := 100000) (q := 15) (by kernel_rfl) ?_
    refine fine_ask O (n := 100000) (q := 5) (by kernel_rfl) ?_
    refine fine_tok O (n := 100000) (q := 1000) (by kernel_rfl) (by kernel_rfl) (fun _ => by kernel_rfl) (fun _ _ => by kernel_rfl) ?_
    intro u tk
    exact fine_true (by kernel_rfl) hR
  · intro P t m p D O hR
    refine fine_go O (n := 100000) (q := 4) ?_
    refine fine_ask O (n := 100000) (q := 2) (by kernel_rfl) ?_
    refine fine_ask O (n := 100000) (q := 2) (by kernel_rfl) ?_
    refine fine_ask O (n := 100000) (q := 7) (by kernel_rfl) ?_
    refine fine_ask O (n := 100000) (q := 4) (by kernel_rfl) ?_
    refine fine_ask O (n := 100000) (q := 6) (by kernel_rfl) ?_
    refine fine_ask O (n := 100000) (q := 2) (by kernel_rfl) ?_
    refine fine_ask O (n := 100000) (q := 2) (by kernel_rfl) ?_
    refine fine_call O (n := 100000) (n' := 100000) (q := 0) (fun b c => by cases b <;> cases c <;> kernel_rfl) ?_
    refine fine_ask O (n := 100000) (q := 8) (by kernel_rfl) ?_
    refine fine_ask O (n := 100000) (q := 2) (by kernel_rfl) ?_
    refine fine_ask O (n := 100000) (q := 2) (by kernel_rfl) ?_
    refine fine_ask O (n := 100000) (q := 15) (by kernel_rfl) ?_
    refine fine_ask O (n := 100000) (q := 5) (by kernel_rfl) ?_
    refine fine_tok O (n := 100000) (q := 1000) (by kernel_rfl) (by kernel_rfl) (fun _ => by kernel_rfl) (fun _ _ => by kernel_rfl) ?_
    intro u tk
    exact fine_true (by kernel_rfl) hR
  · intro P t m p D O hR
    refine fine_go O (n := 100000) (q := 4) ?_
    refine fine_ask O (n := 100000) (q := 2) (by kernel_rfl) ?_
    refine fine_ask O (n := 100000) (q := 2) (by kernel_rfl) ?_
    refine fine_ask O (n := 100000) (q := 7) (by kernel_rfl) ?_
    refine fine_ask O (n := 100000) (q := 4) (by kernel_rfl) ?_
    refine fine_ask O (n := 100000) (q := 6) (by kernel_rfl) ?_
    refine fine_ask O (n := 100000) (q := 2) (by kernel_rfl) ?_
    refine fine_ask O (n := 100000) (q := 2) (by kernel_rfl) ?_
    refine fine_call O (n := 100000) (n' := 100000) (q := 0) (fun b c => by cases b <;> cases c <;> kernel_rfl) ?_
    refine fine_ask O (n := 100000) (q := 8) (by kernel_rfl) ?_
    refine fine_ask O (n := 100000) (q := 2) (by kernel_rfl) ?_
    refine fine_ask O (n := 100000) (q := 2) (by kernel_rfl) ?_
    refine fine_ask O (n := 100000) (q := 15) (by kernel_rfl) ?_
    refine fine_ask O (n := 100000) (q := 5) (by kernel_rfl) ?_
    refine fine_tok O (n := 100000) (q := 1000) (by kernel_rfl) (by kernel_rfl) (fun _ => by kernel_rfl) (fun _ _ => by kernel_rfl) ?_
    intro u tk
    exact fine_true (by kernel_rfl) hR
  · intro P t m p D O hR
    refine fine_go O (n := 100000) (q := 4) ?_
    refine fine_ask O (n := 100000) (q := 2) (by kernel_rfl) ?_
    refine fine_ask O (n := 100000) (q := 2) (by kernel_rfl) ?_
    refine fine_ask O (n := 100000) (q := 7) (by kernel_rfl) ?_
    refine fine_ask O (n := 100000) (q := 4) (by kernel_rfl) ?_
    refine fine_ask O (n := 100000) (q := 6) (by kernel_rfl) ?_
    refine fine_ask O (n := 100000) (q := 2) (by kernel_rfl) ?_
    refine fine_ask O (n := 100000) (q := 2) (by kernel_rfl) ?_
    refine fine_call O (n := 100000) (n' := 100000) (q := 0) (fun b c => by cases b <;> cases c <;> kernel_rfl) ?_
    refine fine_ask O (n := 100000) (q := 8) (by kernel_rfl) ?_
    refine fine_ask O (n := 100000) (q := 2) (by kernel_rfl) ?_
    refine fine_ask O (n := 100000) (q := 2) (by kernel_rfl) ?_
    refine fine_ask O (n := 100000) (q := 15) (by kernel_rfl) ?_
    refine fine_ask O (n := 100000) (q := 5) (by kernel_rfl) ?_
    refine fine_tok O (n := 100000) (q := 1000) (by kernel_rfl) (by kernel_rfl) (fun _ => by kernel_rfl) (fun _ _ => by kernel_rfl) ?_
    intro u tk
    exact fine_true (by kernel_rfl) hR
  · intro P t m p D O hR
    refine fine_go O (n := 100000) (q := 4) ?_
    refine fine_ask O (n := 100000) (q := 2) (by kernel_rfl) ?_
    refine fine_ask O (n := 100000) (q := 2) (by kernel_rfl) ?_
    refine fine_ask O (n := 100000) (q := 7) (by kernel_rfl) ?_
    refine fine_ask O (n := 100000) (q := 4) (by kernel_rfl) ?_
    refine fine_ask O (n := 100000) (q := 6) (by kernel_rfl) ?_
    refine fine_ask O (n := 100000) (q := 2) (by kernel_rfl) ?_
    refine fine_ask O (n := 100000) (q := 2) (by kernel_rfl) ?_
    refine fine_call O (n := 100000) (n' := 100000) (q := 0) (fun b c => by cases b <;> cases c <;> kernel_rfl) ?_
    refine fine_ask O (n := 100000) (q := 8) (by kernel_rfl) ?_
    refine fine_ask O (n := 100000) (q := 2) (by kernel_rfl) ?_
    refine fine_ask O (n := 100000) (q := 2) (by kernel_rfl) ?_
    refine fine_ask O (n := 100000) (q := 15) (by kernel_rfl) ?_
    refine fine_ask O (n := 100000) (q := 5) (by kernel_rfl) ?_
    refine fine_tok O (n := 100000) (q := 1000) (by kernel_rfl) (by kernel_rfl) (fun _ => by kernel_rfl) (fun _ _ => by kernel_rfl) ?_
    intro u tk
    exact fine_true (by kernel_rfl) hR
  · intro P t m p D O hR
    refine fine_go O (n := 100000) (q := 4) ?_
    refine fine_ask O (n := 100000) (q := 2) (by kernel_rfl) ?_
    refine fine_ask O (n := 100000) (q := 2) (by kernel_rfl) ?_
    refine fine_ask O (n := 100000) (q := 7) (by kernel_rfl) ?_
    refine fine_ask O (n := 100000) (q := 4) (by kernel_rfl) ?_
    refine fine_ask O (n := 100000) (q := 8) (by kernel_rfl) ?_
    refine fine_ask O (n := 100000) (q := 2) (by kernel_rfl) ?_
    refine fine_ask O (n := 100000) (q := 2) (by kernel_rfl) ?_
    refine fine_call O (n := 100000) (n' := 100000) (q := 0) (fun b c => by cases b <;> cases c <;> kernel_rfl) ?_
    refine fine_ask O (n := 100000) (q := 8) (by kernel_rfl) ?_
    refine fine_ask O (n := 100000) (q := 2) (by kernel_rfl) ?_
    refine fine_ask O (n := 100000) (q := 2) (by kernel_rfl) ?_
    refine fine_ask O (n := 100000) (q := 15) (by kernel_rfl) ?_
    refine fine_ask O (n := 100000) (q := 5) (by kernel_rfl) ?_
    refine fine_tok O (n := 100000) (q := 1000) (by kernel_rfl) (by kernel_rfl) (fun _ => by kernel_rfl) (fun _ _ => by kernel_rfl) ?_
    intro u tk
    exact fine_true (by kernel_rfl) hR
  · intro P t m p D O hR
    refine fine_go O (n := 100000) (q := 4) ?_
    refine fine_ask O (n := 100000) (q := 2) (by kernel_rfl) ?_
    refine fine_ask O (n := 100000) (q := 2) (by kernel_rfl) ?_
    refine fine_ask O (n := 100000) (q := 7) (by kernel_rfl) ?_
    refine fine_ask O (n := 100000) (q := 4) (by kernel_rfl) ?_
    refine fine_ask O (n := 100000) (q := 8) (by kernel_rfl) ?_
    refine fine_ask O (n := 100000) (q := 2) (by kernel_rfl) ?_
    refine fine_ask O (n := 100000) (q := 2) (by kernel_rfl) ?_
    refine fine_call O (n := 100000) (n' := 100000) (q := 0) (fun b c => by cases b <;> cases c <;> kernel_rfl) ?_
    refine fine_ask O (n := 100000) (q := 8) (by kernel_rfl) ?_
    refine fine_ask O (n := 100000) (q := 2) (by kernel_rfl) ?_
    refine fine_ask O (n := 100000) (q := 2) (by kernel_rfl) ?_
    refine fine_ask O (n := 100000) (q := 15) (by kernel_rfl) ?_
    refine fine_ask O (n := 100000) (q := 5) (by kernel_rfl) ?_
    refine fine_tok O (n := 100000) (q := 1000) (by kernel_rfl) (by kernel_rfl) (fun _ => by kernel_rfl) (fun _ _ => by kernel_rfl) ?_
    intro u tk
    exact fine_true (by kernel_rfl) hR
  · intro P t m p D O hR
    refine fine_go O (n := 100000) (q := 4) ?_
    refine fine_ask O (n := 100000) (q := 2) (by kernel_rfl) ?_
    refine fine_ask O (n := 100000) (q := 2) (by kernel_rfl) ?_
    refine fine_ask O (n := 100000) (q := 7) (by kernel_rfl) ?_
    refine fine_ask O (n := 100000) (q := 4) (by kernel_rfl) ?_
    refine fine_ask O (n := 100000) (q := 8) (by kernel_rfl) ?_
    refine fine_ask O (n := 100000) (q := 2) (by kernel_rfl) ?_
    refine fine_ask O (n := 100000) (q := 2) (by kernel_rfl) ?_
    refine fine_call O (n := 100000) (n' := 100000) (q := 0) (fun b c => by cases b <;> cases c <;> kernel_rfl) ?_
    refine fine_ask O (n := 100000) (q := 8) (by kernel_rfl) ?_
    refine fine_ask O (n := 100000) (q := 2) (by kernel_rfl) ?_
    refine fine_ask O (n := 100000) (q := 2) (by kernel_rfl) ?_
    refine fine_ask O (n := 100000) (q := 15) (by kernel_rfl) ?_
    refine fine_ask O (n := 100000) (q := 5) (by kernel_rfl) ?_
    refine fine_tok O (n := 100000) (q := 1000) (by kernel_rfl) (by kernel_rfl) (fun _ => by kernel_rfl) (fun _ _ => by kernel_rfl) ?_
    intro u tk
    exact fine_true (by kernel_rfl) hR
end Mine

namespace Mine
theorem g31 : RunOk 3 ⟨#[45, 45, 49, 50]⟩ ∧
  RunOk 3 ⟨#[45, 45, 49, 120]⟩ ∧
  RunOk 3 ⟨#[45, 45, 50, 49, 52, 55, 52, 56, 51, 54, 52, 55]⟩ ∧
  RunOk 3 ⟨#[45, 45, 50, 49, 52, 55, 52, 56, 51, 54, 52, 56]⟩ ∧
  RunOk 3 ⟨#[45, 45, 50, 49, 52, 55, 52, 56, 51, 54, 52, 57]⟩ ∧
  RunOk 3 ⟨#[45, 45, 55]⟩ ∧
  RunOk 3 ⟨#[45, 45, 57, 57, 57, 57, 57, 57, 57, 57, 57, 57, 57]⟩ ∧
  RunOk 3 ⟨#[45, 49, 120]⟩ := by
  refine ⟨?_, ?_, ?_, ?_, ?_, ?_, ?_, ?_⟩
  · intro P t m p D O hR
    refine fine_go O (n := 100000) (q := 4) ?_
    refine fine_ask O (n := 100000) (q := 2) (by kernel_rfl) ?_
    refine fine_ask O (n := 100000) (q := 2) (by kernel_rfl) ?_
    refine fine_ask O (n := 100000) (q := 7) (by kernel_rfl) ?_
    refine fine_ask O (n := 100000) (q := 4) (by kernel_rfl) ?_
    refine fine_ask O (n := 100000) (q := 8) (by kernel_rfl) ?_
    refine fine_ask O (n := 100000) (q := 2) (by kernel_rfl) ?_
    refine fine_ask O (n := 100000) (q := 2) (by kernel_rfl) ?_
    refine fine_call O (n := 100000) (n' := 100000) (q := 0) (fun b c => by cases b <;> cases c <;> kernel_rfl) ?_
    refine fine_ask O (n := 100000) (q := 8) (by kernel_rfl) ?_
    refine fine_ask O (n := 100000) (q := 2) (by kernel_rfl) ?_
    refine fine_ask O (n := 100000) (q := 2) (by kernel_rfl) ?_
    refine fine_ask O (n := 100000) (q := 15) (by kernel_rfl) ?_
    refine fine_ask O (n := 100000) (q := 5) (by kernel_rfl) ?_
    refine fine_tok O (n := 100000) (q := 1000) (by kernel_rfl) (by kernel_rfl) (fun _ => by kernel_rfl) (fun _ _ => by kernel_rfl) ?_
    intro u tk
    exact fine_true (by kernel_rfl) hR
  · intro P t m p D O hR
    refine fine_go O (n := 100000) (q := 4) ?_
    refine fine_ask O (n := 100000) (q := 2) (by kernel_rfl) ?_
    refine fine_ask O (n := 100000) (q := 2) (by kernel_rfl) ?_
    refine fine_ask O (n := 100000) (q := 7) (by kernel_rfl) ?_
    refine fine_ask O (n := 100000) (q := 4) (by kernel_rfl) ?_
    refine fine_ask O (n := 100000) (q := 8) (by kernel_rfl) ?_
    refine fine_ask O (n := 100000) (q := 2) (by kernel_rfl) ?_
    refine fine_ask O (n := 100000) (q := 2) (by kernel_rfl) ?_
    refine fine_call O (n := 100000) (n' := 100000) (q := 0) (fun b c => by cases b <;> cases c <;> kernel_rfl) ?_
    refine fine_ask O (n := 100000) (q := 8) (by kernel_rfl) ?_
    refine fine_ask O (n := 100000) (q := 2) (by kernel_rfl) ?_
    refine fine_ask O (n := 100000) (q := 2) (by kernel_rfl) ?_
    refine fine_ask O (n := 100000) (q := 15) (by kernel_rfl) ?_
    refine fine_ask O (n := 100000) (q := 5) (by kernel_rfl) ?_
    refine fine_tok O (n := 100000) (q := 1000) (by kernel_rfl) (by kernel_rfl) (fun _ => by kernel_rfl) (fun _ _ => by kernel_rfl) ?_
    intro u tk
    exact fine_true (by kernel_rfl) hR
  · intro P t m p D O hR
    refine fine_go O (n := 100000) (q := 4) ?_
    refine fine_ask O (n := 100000) (q := 2) (by kernel_rfl) ?_
    refine fine_ask O (n := 100000) (q := 2) (by kernel_rfl) ?_
    refine fine_ask O (n := 100000) (q := 7) (by kernel_rfl) ?_
    refine fine_ask O (n := 100000) (q := 4) (by kernel_rfl) ?_
    refine fine_ask O (n := 100000) (q := 8) (by kernel_rfl) ?_
    refine fine_ask O (n := 100000) (q := 2) (by kernel_rfl) ?_
    refine fine_ask O (n := 100000) (q := 2) (by kernel_rfl) ?_
    refine fine_call O (n := 100000) (n' := 100000) (q := 0) (fun b c => by cases b <;> cases c <;> kernel_rfl) ?_
    refine fine_ask O (n := 100000) (q := 8) (by kernel_rfl) ?_
    refine fine_ask O (n := 100000) (q := 2) (by kernel_rfl) ?_
    refine fine_ask O (n := 100000) (q := 2) (by kernel_rfl) ?_
    refine fine_ask O (n := 100000) (q := 15) (by kernel_rfl) ?_
    refine fine_ask O (n := 100000) (q := 5) (by kernel_rfl) ?_
    refine fine_tok O (n := 100000) (q := 1000) (by kernel_rfl) (by kernel_rfl) (fun _ => by kernel_rfl) (fun _ _ => by kernel_rfl) ?_
    intro u tk
    exact fine_true (by kernel_rfl) hR
  · intro P t m p D O hR
    refine fine_go O (n := 100000) (q := 4) ?_
    refine fine_ask O (n := 100000) (q := 2) (by kernel_rfl) ?_
    refine fine_ask O (n := 100000) (q := 2) (by kernel_rfl) ?_
    refine fine_ask O (n := 100000) (q := 7) (by kernel_rfl) ?_
    refine fine_ask O (n := 100000) (q := 4) (by kernel_rfl) ?_
    refine fine_ask O (n := 100000) (q := 8) (by kernel_rfl) ?_
    refine fine_ask O (n := 100000) (q := 2) (by kernel_rfl) ?_
    refine fine_ask O (n := 100000) (q := 2) (by kernel_rfl) ?_
    refine fine_call O (n := 100000) (n' := 100000) (q := 0) (fun b c => by cases b <;> cases c <;> kernel_rfl) ?_
    refine fine_ask O (n := 100000) (q := 8) (by kernel_rfl) ?_
    refine fine_ask O (n := 100000) (q := 2) (by kernel_rfl) ?_
    refine fine_ask O (n := 100000) (q := 2) (by kernel_rfl) ?_
    refine fine_ask O (n := 100000) (q := 15) (by kernel_rfl) ?_
    refine fine_ask O (n := 100000) (q := 5) (by kernel_rfl) ?_
    refine fine_tok O (n := 100000) (q := 1000) (by kernel_rfl) (by kernel_rfl) (fun _ => by kernel_rfl) (fun _ _ => by kernel_rfl) ?_
    intro u tk
    exact fine_true (by kernel_rfl) hR
  · intro P t m p D O hR
    refine fine_go O (n := 100000) (q := 4) ?_
    refine fine_ask O (n := 100000) (q := 2) (by kernel_rfl) ?_
    refine fine_ask O (n := 100000) (q := 2) (by kernel_rfl) ?_
    refine fine_ask O (n := 100000) (q := 7) (by kernel_rfl) ?_
    refine fine_ask O (n := 100000) (q := 4) (by kernel_rfl) ?_
    refine fine_ask O (n := 100000) (q := 8) (by kernel_rfl) ?_
    refine fine_ask O (n := 100000) (q := 2) (by kernel_rfl) ?_
    refine fine_ask O (n := 100000) (q := 2) (by kernel_rfl) ?_
    refine fine_call O (n := 100000) (n' := 100000) (q := 0) (fun b c => by cases b <;> cases c <;> kernel_rfl) ?_
    refine fine_ask O (n := 100000) (q := 8) (by kernel_rfl) ?_
    refine fine_ask O (n := 100000) (q := 2) (by kernel_rfl) ?_
    refine fine_ask O (n := 100000) (q := 2) (by kernel_rfl) ?_
    refine fine_ask O (n := 100000) (q := 15) (by kernel_rfl) ?_
    refine fine_ask O (n := 100000) (q := 5) (by kernel_rfl) ?_
    refine fine_tok O (n := 100000) (q := 1000) (by kernel_rfl) (by kernel_rfl) (fun _ => by kernel_rfl) (fun _ _ => by kernel_rfl) ?_
    intro u tk
    exact fine_true (by kernel_rfl) hR
  · intro P t m p D O hR
    refine fine_go O (n := 100000) (q := 4) ?_
    refine fine_ask O (n := 100000) (q := 2) (by kernel_rfl) ?_
    refine fine_ask O (n := 100000) (q := 2) (by kernel_rfl) ?_
    refine fine_ask O (n := 100000) (q := 7) (by kernel_rfl) ?_
    refine fine_ask O (n := 100000) (q := 4) (by kernel_rfl) ?_
    refine fine_ask O (n := 100000) (q := 8) (by kernel_rfl) ?_
    refine fine_ask O (n := 100000) (q := 2) (by kernel_rfl) ?_
    refine fine_ask O (n := 100000) (q := 2) (by kernel_rfl) ?_
    refine fine_call O (n := 100000) (n' := 100000) (q := 0) (fun b c => by cases b <;> cases c <;> kernel_rfl) ?_
    refine fine_ask O (n := 100000) (q := 8) (by kernel_rfl) ?_
    refine fine_ask O (n := 100000) (q := 2) (by kernel_rfl) ?_
    refine fine_ask O (n := 100000) (q := 2) (by kernel_rfl) ?_
    refine fine_ask O (n := 100000) (q := 15) (by kernel_rfl) ?_
    refine fine_ask O (n := 100000) (q := 5) (by kernel_rfl) ?_
    refine fine_tok O (n := 100000) (q := 1000) (by kernel_rfl) (by kernel_rfl) (fun _ => by kernel_rfl) (fun _ _ => by kernel_rfl) ?_
    intro u tk
    exact fine_true (by kernel_rfl) hR
  · intro P t m p D O hR
    refine fine_go O (n := 100000) (q := 4) ?_
    refine fine_ask O (n := 100000) (q := 2) (by kernel_rfl) ?_
    refine fine_ask O (n := 100000) (q := 2) (by kernel_rfl) ?_
    refine fine_ask O (n := 100000) (q := 7) (by kernel_rfl) ?_
    refine fine_ask O (n := 100000) (q := 4) (by kernel_rfl) ?_
    refine fine_ask O (n := 100000) (q := 8) (by kernel_rfl) ?_
    refine fine_ask O (n := 100000) (q := 2) (by kernel_rfl) ?_
    refine fine_ask O (n := 100000) (q := 2) (by kernel_rfl) ?_
    refine fine_call O (n := 100000) (n' := 100000) (q := 0) (fun b c => by cases b <;> cases c <;> kernel_rfl) ?_
    refine fine_ask O (n := 100000) (q := 8) (by kernel_rfl) ?_
    refine fine_ask O (n := 100000) (q := 2) (by kernel_rfl) ?_
    refine fine_ask O (n := 100000) (q := 2) (by kernel_rfl) ?_
    refine fine_ask O (n := 100000) (q := 15) (by kernel_rfl) ?_
    refine fine_ask O (n := 100000) (q := 5) (by kernel_rfl) ?_
    refine fine_tok O (n := 100000) (q := 1000) (by kernel_rfl) (by kernel_rfl) (fun _ => by kernel_rfl) (fun _ _ => by kernel_rfl) ?_
    intro u tk
    exact fine_true (by kernel_rfl) hR
  · intro P t m p D O hR
    refine fine_go O (n := 100000) (q := 4) ?_
    refine fine_ask O (n := 100000) (q := 2) (by kernel_rfl) ?_
    refine fine_ask O (n := 100000) (q := 2) (by kernel_rfl) ?_
    refine fine_ask O (n := 100000) (q := 7) (by kernel_rfl) ?_
    refine fine_ask O (n := 100000) (q := 4) (by kernel_rfl) ?_
    refine fine_ask O (n := 100000) (q := 8) (by kernel_rfl) ?_
    refine fine_ask O (n := 100000) (q := 2) (by kernel_rfl) ?_
    refine fine_ask O (n := 100000) (q := 2) (by kernel_rfl) ?_
    refine fine_call O (n := 100000) (n' := 100000) (q := 0) (fun b c => by cases b <;> cases c <;> kernel_rfl) ?_
    refine fine_ask O (n := 100000) (q := 8) (by kernel_rfl) ?_
    refine fine_ask O (n := 100000) (q := 2) (by kernel_rfl) ?_
    refine fine_ask O (n := 100000) (q := 2) (by kernel_rfl) ?_
    refine fine_ask O (n := 100000) (q := 15) (by kernel_rfl) ?_
    refine fine_ask O (n := 100000) (q := 5) (by kernel_rfl) ?_
    refine fine_tok O (n := 100000) (q := 1000) (by kernel_rfl) (by kernel_rfl) (fun _ => by kernel_rfl) (fun _ _ => by kernel_rfl) ?_
    intro u tk
    exact fine_true (by kernel_rfl) hR
end Mine

namespace Mine
theorem g32 : RunOk 3 ⟨#[43, 48]⟩ ∧
  RunOk 3 ⟨#[43, 48, 48, 55]⟩ ∧
  RunOk 3 ⟨#[43, 49, 50]⟩ ∧
  RunOk 3 ⟨#[43, 50, 49, 52, 55, 52, 56, 51, 54, 52, 55]⟩ ∧
  RunOk 3 ⟨#[43, 55]⟩ ∧
  RunOk 3 ⟨#[48]⟩ := by
  refine ⟨?_, ?_, ?_, ?_, ?_, ?_⟩
  · intro P t m p D O hR
    refine fine_go O (n := 100000) (q := 4) ?_
    refine fine_ask O (n := 100000) (q := 2) (by kernel_rfl) ?_
    refine fine_ask O (n := 100000) (q := 2) (by kernel_rfl) ?_
    refine fine_ask O (n := 100000) (q := 7) (by kernel_rfl) ?_
    refine fine_ask O (n := 100000) (q := 8) (by kernel_rfl) ?_
    refine fine_ask O (n := 100000) (q := 2) (by kernel_rfl) ?_
    refine fine_ask O (n := 100000) (q := 2) (by kernel_rfl) ?_
    refine fine_call O (n := 100000) (n' := 100000) (q := 0) (fun b c => by cases b <;> cases c <;> kernel_rfl) ?_
    refine fine_ask O (n := 100000) (q := 5) (by kernel_rfl) ?_
    refine fine_ask O (n := 100000) (q := 11) (by kernel_rfl) ?_
    refine fine_ask O (n := 100000) (q := 2) (by kernel_rfl) ?_
    refine fine_ask O (n := 100000) (q := 8) (by kernel_rfl) ?_
    refine fine_ask O (n := 100000) (q := 9) (by kernel_rfl) ?_
    refine fine_ask O (n := 100000) (q := 2) (by kernel_rfl) ?_
    refine fine_ask O (n := 100000) (q := 2) (by kernel_rfl) ?_
    refine fine_ask O (n := 100000) (q := 45) (by kernel_rfl) ?_
    refine fine_par O (n := 100000) (q := 5) 34 par34 (by kernel_rfl) (by kernel_rfl) (by kernel_rfl) (by kernel_rfl) (by kernel_rfl) ?_
    intro g
    refine fine_ask O (n := 100000) (q := 4) (by kernel_rfl) ?_
    refine fine_ask O (n := 100000) (q := 29) (by kernel_rfl) ?_
    refine fine_ask O (n := 100000) (q := 11) (by kernel_rfl) ?_
    refine fine_ask O (n := 100000) (q := 1) (by kernel_rfl) ?_
    refine fine_same O (n := 100000) (q := 1000) 690 628 (by kernel_rfl) (by kernel_rfl) (by kernel_rfl) ?_
    exact fine_true (by kernel_rfl) hR
  · intro P t m p D O hR
    refine fine_go O (n := 100000) (q := 4) ?_
    refine fine_ask O (n := 100000) (q := 2) (by kernel_rfl) ?_
    refine fine_ask O (n := 100000) (q := 2) (by kernel_rfl) ?_
    refine fine_ask O (n := 100000) (q := 7) (by kernel_rfl) ?_
    refine fine_ask O (n := 100000) (q := 8) (by kernel_rfl) ?_
    refine fine_ask O (n := 100000) (q := 2) (by kernel_rfl) ?_
    refine fine_ask O (n := 100000) (q := 2) (by kernel_rfl) ?_
    refine fine_call O (n := 100000) (n' := 100000) (q := 0) (fun b c => by cases b <;> cases c <;> kernel_rfl) ?_
    refine fine_ask O (n := 100000) (q := 5) (by kernel_rfl) ?_
    refine fine_ask O (n := 100000) (q := 11) (by kernel_rfl) ?_
    refine fine_ask O (n := 100000) (q := 2) (by kernel_rfl) ?_
    refine fine_ask O (n := 100000) (q := 8) (by kernel_rfl) ?_
    refine fine_ask O (n := 100000) (q := 9) (by kernel_rfl) ?_
    refine fine_ask O (n := 100000) (q := 2) (by kernel_rfl) ?_
    refine fine_ask O (n := 100000) (q := 2) (by kernel_rfl) ?_
    refine fine_ask O (n := 100000) (q := 45) (by kernel_rfl) ?_
    refine fine_par O (n := 100000) (q := 5) 34 par34 (by kernel_rfl) (by kernel_rfl) (by kernel_rfl) (by kernel_rfl) (by kernel_rfl) ?_
    intro g
    refine fine_ask O (n := 100000) (q := 4) (by kernel_rfl) ?_
    refine fine_ask O (n := 100000) (q := 29) (by kernel_rfl) ?_
    refine fine_ask O (n := 100000) (q := 11) (by kernel_rfl) ?_
    refine fine_ask O (n := 100000) (q := 1) (by kernel_rfl) ?_
    refine fine_same O (n := 100000) (q := 1000) 690 628 (by kernel_rfl) (by kernel_rfl) (by kernel_rfl) ?_
    exact fine_true (by kernel_rfl) hR
  · intro P t m p D O hR
    refine fine_go O (n := 100000) (q := 4) ?_
    refine fine_ask O (n := 100000) (q := 2) (by kernel_rfl) ?_
    refine fine_ask O (n := 100000) (q := 2) (by kernel_rfl) ?_
    refine fine_ask O (n := 100000) (q := 7) (by kernel_rfl) ?_
    refine fine_ask O (n := 100000) (q := 8) (by kernel_rfl) ?_
    refine fine_ask O (n := 100000) (q := 2) (by kernel_rfl) ?_
    refine fine_ask O (n := 100000) (q := 2) (by kernel_rfl) ?_
    refine fine_call O (n := 100000) (n' := 100000) (q := 0) (fun b c => by cases b <;> cases c <;> kernel_rfl) ?_
    refine fine_ask O (n := 100000) (q := 5) (by kernel_rfl) ?_
    refine fine_ask O (n := 100000) (q := 11) (by kernel_rfl) ?_
    refine fine_ask O (n := 100000) (q := 2) (by kernel_rfl) ?_
    refine fine_ask O (n := 100000) (q := 8) (by kernel_rfl) ?_
    refine fine_ask O (n := 100000) (q := 9) (by kernel_rfl) ?_
    refine fine_ask O (n := 100000) (q := 2) (by kernel_rfl) ?_
    refine fine_ask O (n := 100000) (q := 2) (by kernel_rfl) ?_
    refine fine_ask O (n := 100000) (q := 45) (by kernel_rfl) ?_
    refine fine_par O (n := 100000) (q := 5) 34 par34 (by kernel_rfl) (by kernel_rfl) (by kernel_rfl) (by kernel_rfl) (by kernel_rfl) ?_
    intro g
    refine fine_ask O (n := 100000) (q := 4) (by kernel_rfl) ?_
    refine fine_ask O (n := 100000) (q := 29) (by kernel_rfl) ?_
    refine fine_ask O (n := 100000) (q := 11) (by kernel_rfl) ?_
    refine fine_ask O (n := 100000) (q := 1) (by kernel_rfl) ?_
    refine fine_same O (n := 100000) (q := 1000) 690 628 (by kernel_rfl) (by kernel_rfl) (by kernel_rfl) ?_
    exact fine_true (by kernel_rfl) hR
  · intro P t m p D O hR
    refine fine_go O (n := 100000) (q := 4) ?_
    refine fine_ask O (n := 100000) (q := 2) (by kernel_rfl) ?_
    refine fine_ask O (n := 100000) (q := 2) (by kernel_rfl) ?_
    refine fine_ask O (n := 100000) (q := 7) (by kernel_rfl) ?_
    refine fine_ask O (n := 100000) (q := 8) (by kernel_rfl) ?_
    refine fine_ask O (n := 100000) (q := 2) (by kernel_rfl) ?_
    refine fine_ask O (n := 100000) (q := 2) (by kernel_rfl) ?_
    refine fine_call O (n := 100000) (n' := 100000) (q := 0) (fun b c => by cases b <;> cases c <;> kernel_rfl) ?_
    refine fine_ask O (n := 100000) (q := 5) (by kernel_rfl) ?_
    refine fine_ask O (n := 100000) (q := 11) (by kernel_rfl) ?_
    refine fine_ask O (n := 100000) (q := 2) (by kernel_rfl) ?_
    refine fine_ask O (n := 100000) (q := 8) (by kernel_rfl) ?_
    refine fine_ask O (n := 100000) (q := 9) (by kernel_rfl) ?_
    refine fine_ask O (n := 100000) (q := 2) (by kernel_rfl) ?_
    refine fine_ask O (n := 100000) (q := 2) (by kernel_rfl) ?_
    refine fine_ask O (n := 100000) (q := 45) (by kernel_rfl) ?_
    refine fine_par O (n := 100000) (q := 5) 34 par34 (by kernel_rfl) (by kernel_rfl) (by kernel_rfl) (by kernel_rfl) (by kernel_rfl) ?_
    intro g
    refine fine_ask O (n := 100000) (q := 4) (by kernel_rfl) ?_
    refine fine_ask O (n := 100000) (q := 29) (by kernel_rfl) ?_
    refine fine_ask O (n := 100000) (q := 11) (by kernel_rfl) ?_
    refine fine_ask O (n := 100000) (q := 1) (by kernel_rfl) ?_
    refine fine_same O (n := 100000) (q := 1000) 690 628 (by kernel_rfl) (by kernel_rfl) (by kernel_rfl) ?_
    exact fine_true (by kernel_rfl) hR
  · intro P t m p D O hR
    refine fine_go O (n := 100000) (q := 4) ?_
    refine fine_ask O (n := 100000) (q := 2) (by kernel_rfl) ?_
    refine fine_ask O (n := 100000) (q := 2) (by kernel_rfl) ?_
    refine fine_ask O (n := 100000) (q := 7) (by kernel_rfl) ?_
    refine fine_ask O (n := 100000) (q := 8) (by kernel_rfl) ?_
    refine fine_ask O (n := 100000) (q := 2) (by kernel_rfl) ?_
    refine fine_ask O (n := 100000) (q := 2) (by kernel_rfl) ?_
    refine fine_call O (n := 100000) (n' := 100000) (q := 0) (fun b c => by cases b <;> cases c <;> kernel_rfl) ?_
    refine fine_ask O (n := 100000) (q := 5) (by kernel_rfl) ?_
    refine fine_ask O (n := 100000) (q := 11) (by kernel_rfl) ?_
    refine fine_ask O (n := 100000) (q := 2) (by kernel_rfl) ?_
    refine fine_ask O (n := 100000) (q := 8) (by kernel_rfl) ?_
    refine fine_ask O (n := 100000) (q := 9) (by kernel_rfl) ?_
    refine fine_ask O (n := 100000) (q := 2) (by kernel_rfl) ?_
    refine fine_ask O (n := 100000) (q := 2) (by kernel_rfl) ?_
    refine fine_ask O (n := 100000) (q := 45) (by kernel_rfl) ?_
    refine fine_par O (n := 100000) (q := 5) 34 par34 (by kernel_rfl) (by kernel_rfl) (by kernel_rfl) (by kernel_rfl) (by kernel_rfl) ?_
    intro g
    refine fine_ask O (n := 100000) (q := 4) (by kernel_rfl) ?_
    refine fine_ask O (n := 100000) (q := 29) (by kernel_rfl) ?_
    refine fine_ask O (n := 100000) (q := 11) (by kernel_rfl) ?_
    refine fine_ask O (n := 100000) (q := 1) (by kernel_rfl) ?_
    refine fine_same O (n := 100000) (q := 1000) 690 628 (by kernel_rfl) (by kernel_rfl) (by kernel_rfl) ?_
    exact fine_true (by kernel_rfl) hR
  · intro P t m p D O hR
    refine fine_go O (n := 100000) (q := 4) ?_
    refine fine_ask O (n := 100000) (q := 2) (by kernel_rfl) ?_
    refine fine_ask O (n := 100000) (q := 2) (by kernel_rfl) ?_
    refine fine_ask O (n := 100000) (q := 7) (by kernel_rfl) ?_
    refine fine_ask O (n := 100000) (q := 4) (by kernel_rfl) ?_
    refine fine_ask O (n := 100000) (q := 6) (by kernel_rfl) ?_
    refine fine_ask O (n := 100000) (q := 2) (by kernel_rfl) ?_
    refine fine_ask O (n := 100000) (q := 2) (by kernel_rfl) ?_
    refine fine_call O (n := 100000) (n' := 100000) (q := 0) (fun b c => by cases b <;> cases c <;> kernel_rfl) ?_
    refine fine_ask O (n := 100000) (q := 5) (by kernel_rfl) ?_
    refine fine_ask O (n := 100000) (q := 11) (by kernel_rfl) ?_
    refine fine_ask O (n := 100000) (q := 2) (by kernel_rfl) ?_
    refine fine_ask O (n := 100000) (q := 8) (by kernel_rfl) ?_
    refine fine_ask O (n := 100000) (q := 9) (by kernel_rfl) ?_
    refine fine_ask O (n := 100000) (q := 2) (by kernel_rfl) ?_
    refine fine_ask O (n := 100000) (q := 2) (by kernel_rfl) ?_
    refine fine_ask O (n := 100000) (q := 45) (by kernel_rfl) ?_
    refine fine_par O (n := 100000) (q := 5) 34 par34 (by kernel_rfl) (by kernel_rfl) (by kernel_rfl) (by kernel_rfl) (by kernel_rfl) ?_
    intro g
    refine fine_ask O (n := 100000) (q := 4) (by kernel_rfl) ?_
    refine fine_ask O (n := 100000) (q := 29) (by kernel_rfl) ?_
    refine fine_ask O (n := 100000) (q := 11) (by kernel_rfl) ?_
    refine fine_ask O (n := 100000) (q := 1) (by kernel_rfl) ?_
    refine fine_same O (n := 100000) (q := 1000) 690 628 (by kernel_rfl) (by kernel_rfl) (by kernel_rfl) ?_
    exact fine_true (by kernel_rfl) hR
end Mine

namespace Mine
theorem g33 : RunOk 3 ⟨#[48, 48, 55]⟩ ∧
  RunOk 3 ⟨#[49, 50]⟩ ∧
  RunOk 3 ⟨#[50, 49, 52, 55, 52, 56, 51, 54, 52, 55]⟩ ∧
  RunOk 3 ⟨#[55]⟩ ∧
  RunOk 3 ⟨#[45, 48]⟩ ∧
  RunOk 3 ⟨#[45, 48, 48, 55]⟩ := by
  refine ⟨?_, ?_, ?_, ?_, ?_, ?_⟩
  · intro P t m p D O hR
    refine fine_go O (n := 100000) (q := 4) ?_
    refine fine_ask O (n := 100000) (q := 2) (by kernel_rfl) ?_
    refine fine_ask O (n := 100000) (q := 2) (by kernel_rfl) ?_
    refine fine_ask O (n := 100000) (q := 7) (by kernel_rfl) ?_
    refine fine_ask O (n := 100000) (q := 4) (by kernel_rfl) ?_
    refine fine_ask O (n := 100000) (q := 6) (by kernel_rfl) ?_
    refine fine_ask O (n := 100000) (q := 2) (by kernel_rfl) ?_
    refine fine_ask O (n := 100000) (q := 2) (by kernel_rfl) ?_
    refine fine_call O (n := 100000) (n' := 100000) (q := 0) (fun b c => by cases b <;> cases c <;> kernel_rfl) ?_
    refine fine_ask O (n := 100000) (q := 5) (by kernel_rfl) ?_
    refine fine_ask O (n := 100000) (q := 11) (by kernel_rfl) ?_
    refine fine_ask O (n := 100000) (q := 2) (by kernel_rfl) ?_
    refine fine_ask O (n := 100000) (q := 8) (by kernel_rfl) ?_
    refine fine_ask O (n := 100000) (q := 9) (by kernel_rfl) ?_
    refine fine_ask O (n := 100000) (q := 2) (by kernel_rfl) ?_
    refine fine_ask O (n := 100000) (q := 2) (by kernel_rfl) ?_
    refine fine_ask O (n := 100000) (q := 45) (by kernel_rfl) ?_
    refine fine_par O (n := 100000) (q := 5) 34 par34 (by kernel_rfl) (by kernel_rfl) (by kernel_rfl) (by kernel_rfl) (by kernel_rfl) ?_
    intro g
    refine fine_ask O (n := 100000) (q := 4) (by kernel_rfl) ?_
    refine fine_ask O (n := 100000) (q := 29) (by kernel_rfl) ?_
    refine fine_ask O (n := 100000) (q := 11) (by kernel_rfl) ?_
    refine fine_ask O (n := 100000) (q := 1) (by kernel_rfl) ?_
    refine fine_same O (n := 100000) (q := 1000) 690 628 (by kernel_rfl) (by kernel_rfl) (by kernel_rfl) ?_
    exact fine_true (by kernel_rfl) hR
  · intro P t m p D O hR
    refine fine_go O (n := 100000) (q := 4) ?_
    refine fine_ask O (n := 100000) (q := 2) (by kernel_rfl) ?_
    refine fine_ask O (n := 100000) (q := 2) (by kernel_rfl) ?_
    refine fine_ask O (n := 100000) (q := 7) (by kernel_rfl) ?_
    refine fine_ask O (n := 100000) (q := 4) (by kernel_rfl) ?_
    refine fine_ask O (n := 100000) (q := 6) (by kernel_rfl) ?_
    refine fine_ask O (n := 100000) (q := 2) (by kernel_rfl) ?_
    refine fine_ask O (n := 100000) (q := 2) (by kernel_rfl) ?_
    refine fine_call O (n := 100000) (n' := 100000) (q := 0) (fun b c => by cases b <;> cases c <;> kernel_rfl) ?_
    refine fine_ask O (n := 100000) (q := 5) (by kernel_rfl) ?_
    refine fine_ask O (n := 100000) (q := 11) (by kernel_rfl) ?_
    refine fine_ask O (n := 100000) (q := 2) (by kernel_rfl) ?_
    refine fine_ask O (n := 100000) (q := 8) (by kernel_rfl) ?_
    refine fine_ask O (n := 100000) (q := 9) (by kernel_rfl) ?_
    refine fine_ask O (n := 100000) (q := 2) (by kernel_rfl) ?_
    refine fine_ask O (n := 100000) (q := 2) (by kernel_rfl) ?_
    refine fine_ask O (n := 100000) (q := 45) (by kernel_rfl) ?_
    refine fine_par O (n := 100000) (q := 5) 34 par34 (by kernel_rfl) (by kernel_rfl) (by kernel_rfl) (by kernel_rfl) (by kernel_rfl) ?_
    intro g
    refine fine_ask O (n := 100000) (q := 4) (by kernel_rfl) ?_
    refine fine_ask O (n := 100000) (q := 29) (by kernel_rfl) ?_
    refine fine_ask O (n := 100000) (q := 11) (by kernel_rfl) ?_
    refine fine_ask O (n := 100000) (q := 1) (by kernel_rfl) ?_
    refine fine_same O (n := 100000) (q := 1000) 690 628 (by kernel_rfl) (by kernel_rfl) (by kernel_rfl) ?_
    exact fine_true (by kernel_rfl) hR
  · intro P t m p D O hR
    refine fine_go O (n := 100000) (q := 4) ?_
    refine fine_ask O (n := 100000) (q := 2) (by kernel_rfl) ?_
    refine fine_ask O (n := 100000) (q := 2) (by kernel_rfl) ?_
    refine fine_ask O (n := 100000) (q := 7) (by kernel_rfl) ?_
    refine fine_ask O (n := 100000) (q := 4) (by kernel_rfl) ?_
    refine fine_ask O (n := 100000) (q := 6) (by kernel_rfl) ?_
    refine fine_ask O (n := 100000) (q := 2) (by kernel_rfl) ?_
    refine fine_ask O (n := 100000) (q := 2) (by kernel_rfl) ?_
    refine fine_call O (n := 100000) (n' := 100000) (q := 0) (fun b c => by cases b <;> cases c <;> kernel_rfl) ?_
    refine fine_ask O (n := 100000) (q := 5) (by kernel_rfl) ?_
    refine fine_ask O (n := 100000) (q := 11) (by kernel_rfl) ?_
    refine fine_ask O (n := 100000) (q := 2) (by kernel_rfl) ?_
    refine fine_ask O (n := 100000) (q := 8) (by kernel_rfl) ?_
    refine fine_ask O (n := 100000) (q := 9) (by kernel_rfl) ?_
    refine fine_ask O (n := 100000) (q := 2) (by kernel_rfl) ?_
    refine fine_ask O (n := 100000) (q := 2) (by kernel_rfl) ?_
    refine fine_ask O (n := 100000) (q := 45) (by kernel_rfl) ?_
    refine fine_par O (n := 100000) (q := 5) 34 par34 (by kernel_rfl) (by kernel_rfl) (by kernel_rfl) (by kernel_rfl) (by kernel_rfl) ?_
    intro g
    refine fine_ask O (n := 100000) (q := 4) (by kernel_rfl) ?_
    refine fine_ask O (n := 100000) (q := 29) (by kernel_rfl) ?_
    refine fine_ask O (n := 100000) (q := 11) (by kernel_rfl) ?_
    refine fine_ask O (n := 100000) (q := 1) (by kernel_rfl) ?_
    refine fine_same O (n := 100000) (q := 1000) 690 628 (by kernel_rfl) (by kernel_rfl) (by kernel_rfl) ?_
    exact fine_true (by kernel_rfl) hR
  · intro P t m p D O hR
    refine fine_go O (n := 100000) (q := 4) ?_
    refine fine_ask O (n := 100000) (q := 2) (by kernel_rfl) ?_
    refine fine_ask O (n := 100000) (q := 2) (by kernel_rfl) ?_
    refine fine_ask O (n := 100000) (q := 7) (by kernel_rfl) ?_
    refine fine_ask O (n := 100000) (q := 4) (by kernel_rfl) ?_
    refine fine_ask O (n := 100000) (q := 6) (by kernel_rfl) ?_
    refine fine_ask O (n := 100000) (q := 2) (by kernel_rfl) ?_
    refine fine_ask O (n := 100000) (q := 2) (by kernel_rfl) ?_
    refine fine_call O (n := 100000) (n' := 100000) (q := 0) (fun b c => by cases b <;> cases c <;> kernel_rfl) ?_
    refine fine_ask O (n := 100000) (q := 5) (by kernel_rfl) ?_
    refine fine_ask O (n := 100000) (q := 11) (by kernel_rfl) ?_
    refine fine_ask O (n := 100000) (q := 2) (by kernel_rfl) ?_
    refine fine_ask O (n := 100000) (q := 8) (by kernel_rfl) ?_
    refine fine_ask O (n := 100000) (q := 9) (by kernel_rfl) ?_
    refine fine_ask O (n := 100000) (q := 2) (by kernel_rfl) ?_
    refine fine_ask O (n := 100000) (q := 2) (by kernel_rfl) ?_
    refine fine_ask O (n := 100000) (q := 45) (by kernel_rfl) ?_
    refine fine_par O (n := 100000) (q := 5) 34 par34 (by kernel_rfl) (by kernel_rfl) (by kernel_rfl) (by kernel_rfl) (by kernel_rfl) ?_
    intro g
    refine fine_ask O (n := 100000) (q := 4) (by kernel_rfl) ?_
    refine fine_ask O (n := 100000) (q := 29) (by kernel_rfl) ?_
    refine fine_ask O (n := 100000) (q := 11) (by kernel_rfl) ?_
    refine fine_ask O (n := 100000) (q := 1) (by kernel_rfl) ?_
    refine fine_same O (n := 100000) (q := 1000) 690 628 (by kernel_rfl) (by kernel_rfl) (by kernel_rfl) ?_
    exact fine_true (by kernel_rfl) hR
  · intro P t m p D O hR
    refine fine_go O (n := 100000) (q := 4) ?_
    refine fine_ask O (n := 100000) (q := 2) (by kernel_rfl) ?_
    refine fine_ask O (n := 100000) (q := 2) (by kernel_rfl) ?_
    refine fine_ask O (n := 100000) (q := 7) (by kernel_rfl) ?_
    refine fine_ask O (n := 100000) (q := 4) (by kernel_rfl) ?_
    refine fine_ask O (n := 100000) (q := 8) (by kernel_rfl) ?_
    refine fine_ask O (n := 100000) (q := 2) (by kernel_rfl) ?_
    refine fine_ask O (n := 100000) (q := 2) (by kernel_rfl) ?_
    refine fine_call O (n := 100000) (n' := 100000) (q := 0) (fun b c => by cases b <;> cases c <;> kernel_rfl) ?_
    refine fine_ask O (n := 100000) (q := 5) (by kernel_rfl) ?_
    refine fine_ask O (n := 100000) (q := 13) (by kernel_rfl) ?_
    refine fine_ask O (n := 100000) (q := 2) (by kernel_rfl) ?_
    refine fine_ask O (n := 100000) (q := 8) (by kernel_rfl) ?_
    refine fine_ask O (n := 100000) (q := 9) (by kernel_rfl) ?_
    refine fine_ask O (n := 100000) (q := 2) (by kernel_rfl) ?_
    refine fine_ask O (n := 100000) (q := 2) (by kernel_rfl) ?_
    refine fine_ask O (n := 100000) (q := 45) (by kernel_rfl) ?_
    refine fine_par O (n := 100000) (q := 5) 35 par35 (by kernel_rfl) (by kernel_rfl) (by kernel_rfl) (by kernel_rfl) (by kernel_rfl) ?_
    intro g
    refine fine_ask O (n := 100000) (q := 4) (by kernel_rfl) ?_
    refine fine_ask O (n := 100000) (q := 29) (by kernel_rfl) ?_
    refine fine_ask O (n := 100000) (q := 11) (by kernel_rfl) ?_
    refine fine_ask O (n := 100000) (q := 1) (by kernel_rfl) ?_
    refine fine_same O (n := 100000) (q := 1000) 691 629 (by kernel_rfl) (by kernel_rfl) (by kernel_rfl) ?_
    exact fine_true (by kernel_rfl) hR
  · intro P t m p D O hR
    refine fine_go O (n := 100000) (q := 4) ?_
    refine fine_ask O (n := 100000) (q := 2) (by kernel_rfl) ?_
    refine fine_ask O (n := 100000) (q := 2) (by kernel_rfl) ?_
    refine fine_ask O (n := 100000) (q := 7) (by kernel_rfl) ?_
    refine fine_ask O (n := 100000) (q := 4) (by kernel_rfl) ?_
    refine fine_ask O (n := 100000) (q := 8) (by kernel_rfl) ?_
    refine fine_ask O (n := 100000) (q := 2) (by kernel_rfl) ?_
    refine fine_ask O (n := 100000) (q := 2) (by kernel_rfl) ?_
    refine fine_call O (n := 100000) (n' := 100000) (q := 0) (fun b c => by cases b <;> cases c <;> kernel_rfl) ?_
    refine fine_ask O (n := 100000) (q := 5) (by kernel_rfl) ?_
    refine fine_ask O (n := 100000) (q := 13) (by kernel_rfl) ?_
    refine fine_ask O (n := 100000) (q := 2) (by kernel_rfl) ?_
    refine fine_ask O (n := 100000) (q := 8) (by kernel_rfl) ?_
    refine fine_ask O (n := 100000) (q := 9) (by kernel_rfl) ?_
    refine fine_ask O (n := 100000) (q := 2) (by kernel_rfl) ?_
    refine fine_ask O (n := 100000) (q := 2) (by kernel_rfl) ?_
    refine fine_ask O (n := 100000) (q := 45) (by kernel_rfl) ?_
    refine fine_par O (n := 100000) (q := 5) 35 par35 (by kernel_rfl) (by kernel_rfl) (by kernel_rfl) (by kernel_rfl) (by kernel_rfl) ?_
    intro g
    refine fine_ask O (n := 100000) (q := 4) (by kernel_rfl) ?_
    refine fine_ask O (n := 100000) (q := 29) (by kernel_rfl) ?_
    refine fine_ask O (n := 100000) (q := 11) (by kernel_rfl) ?_
    refine fine_ask O (n := 100000) (q := 1) (by kernel_rfl) ?_
    refine fine_same O (n := 100000) (q := 1000) 691 629 (by kernel_rfl) (by kernel_rfl) (by kernel_rfl) ?_
    exact fine_true (by kernel_rfl) hR
end Mine

namespace Mine
theorem g34 : RunOk 3 ⟨#[45, 49, 50]⟩ ∧
  RunOk 3 ⟨#[45, 50, 49, 52, 55, 52, 56, 51, 54, 52, 55]⟩ ∧
  RunOk 3 ⟨#[45, 50, 49, 52, 55, 52, 56, 51, 54, 52, 56]⟩ ∧
  RunOk 3 ⟨#[45, 55]⟩ := by
  refine ⟨?_, ?_, ?_, ?_⟩
  · intro P t m p D O hR
    refine fine_go O (n := 100000) (q := 4) ?_
    refine fine_ask O (n := 100000) (q := 2) (by kernel_rfl) ?_
    refine fine_ask O (n := 100000) (q := 2) (by kernel_rfl) ?_
    refine fine_ask O (n := 100000) (q := 7) (by kernel_rfl) ?_
    refine fine_ask O (n := 100000) (q := 4) (by kernel_rfl) ?_
    refine fine_ask O (n := 100000) (q := 8) (by kernel_rfl) ?_
    refine fine_ask O (n := 100000) (q := 2) (by kernel_rfl) ?_
    refine fine_ask O (n := 100000) (q := 2) (by kernel_rfl) ?_
    refine fine_call O (n := 100000) (n' := 100000) (q := 0) (fun b c => by cases b <;> cases c <;> kernel_rfl) ?_
    refine fine_ask O (n := 100000) (q := 5) (by kernel_rfl) ?_
    refine fine_ask O (n := 100000) (q := 13) (by kernel_rfl) ?_
    refine fine_ask O (n := 100000) (q := 2) (by kernel_rfl) ?_
    refine fine_ask O (n := 100000) (q := 8) (by kernel_rfl) ?_
    refine fine_ask O (n := 100000) (q := 9) (by kernel_rfl) ?_
    refine fine_ask O (n := 100000) (q := 2) (by kernel_rfl) ?_
    refine fine_ask O (n := 100000) (q := 2) (by kernel_rfl) ?_
    refine fine_ask O (n := 100000) (q := 45) (by kernel_rfl) ?_
    refine fine_par O (n := 100000) (q := 5) 35 par35 (by kernel_rfl) (by kernel_rfl) (by kernel_rfl) (by kernel_rfl) (by kernel_rfl) ?_
    intro g
    refine fine_ask O (n := 100000) (q := 4) (by kernel_rfl) ?_
    refine fine_ask O (n := 100000) (q := 29) (by kernel_rfl) ?_
    refine fine_ask O (n := 100000) (q := 11) (by kernel_rfl) ?_
    refine fine_ask O (n := 100000) (q := 1) (by kernel_rfl) ?_
    refine fine_same O (n := 100000) (q := 1000) 691 629 (by kernel_rfl) (by kernel_rfl) (by kernel_rfl) ?_
    exact fine_true (by kernel_rfl) hR
  · intro P t m p D O hR
    refine fine_go O (n := 100000) (q := 4) ?_
    refine fine_ask O (n := 100000) (q := 2) (by kernel_rfl) ?_
    refine fine_ask O (n := 100000) (q := 2) (by kernel_rfl) ?_
    refine fine_ask O (n := 100000) (q := 7) (by kernel_rfl) ?_
    refine fine_ask O (n := 100000) (q := 4) (by kernel_rfl) ?_
    refine fine_ask O (n := 100000) (q := 8) (by kernel_rfl) ?_
    refine fine_ask O (n := 100000) (q := 2) (by kernel_rfl) ?_
    refine fine_ask O (n := 100000) (q := 2) (by kernel_rfl) ?_
    refine fine_call O (n := 100000) (n' := 100000) (q := 0) (fun b c => by cases b <;> cases c <;> kernel_rfl) ?_
    refine fine_ask O (n := 100000) (q := 5) (by kernel_rfl) ?_
    refine fine_ask O (n := 100000) (q := 13) (by kernel_rfl) ?_
    refine fine_ask O (n := 100000) (q := 2) (by kernel_rfl) ?_
    refine fine_ask O (n := 100000) (q := 8) (by kernel_rfl) ?_
    refine fine_ask O (n := 100000) (q := 9) (by kernel_rfl) ?_
    refine fine_ask O (n := 100000) (q := 2) (by kernel_rfl) ?_
    refine fine_ask O (n := 100000) (q := 2) (by kernel_rfl) ?_
    refine fine_ask O (n := 100000) (q := 45) (by kernel_rfl) ?_
    refine fine_par O (n := 100000) (q := 5) 35 par35 (by kernel_rfl) (by kernel_rfl) (by kernel_rfl) (by kernel_rfl) (by kernel_rfl) ?_
    intro g
    refine fine_ask O (n := 100000) (q := 4) (by kernel_rfl) ?_
    refine fine_ask O (n := 100000) (q := 29) (by kernel_rfl) ?_
    refine fine_ask O (n := 100000) (q := 11) (by kernel_rfl) ?_
    refine fine_ask O (n := 100000) (q := 1) (by kernel_rfl) ?_
    refine fine_same O (n := 100000) (q := 1000) 691 629 (by kernel_rfl) (by kernel_rfl) (by kernel_rfl) ?_
    exact fine_true (by kernel_rfl) hR
  · intro P t m p D O hR
    refine fine_go O (n := 100000) (q := 4) ?_
    refine fine_ask O (n := 100000) (q := 2) (by kernel_rfl) ?_
    refine fine_ask O (n := 100000) (q := 2) (by kernel_rfl) ?_
    refine fine_ask O (n := 100000) (q := 7) (by kernel_rfl) ?_
    refine fine_ask O (n := 100000) (q := 4) (by kernel_rfl) ?_
    refine fine_ask O (n := 100000) (q := 8) (by kernel_rfl) ?_
    refine fine_ask O (n := 100000) (q := 2) (by kernel_rfl) ?_
    refine fine_ask O (n := 100000) (q := 2) (by kernel_rfl) ?_
    refine fine_call O (n := 100000) (n' := 100000) (q := 0) (fun b c => by cases b <;> cases c <;> kernel_rfl) ?_
    refine fine_ask O (n := 100000) (q := 5) (by kernel_rfl) ?_
    refine fine_ask O (n := 100000) (q := 13) (by kernel_rfl) ?_
    refine fine_ask O (n := 100000) (q := 2) (by kernel_rfl) ?_
    refine fine_ask O (n := 100000) (q := 8) (by kernel_rfl) ?_
    refine fine_ask O (n := 100000) (q := 9) (by kernel_rfl) ?_
    refine fine_ask O (n := 100000) (q := 2) (by kernel_rfl) ?_
    refine fine_ask O (n := 100000) (q := 2) (by kernel_rfl) ?_
    refine fine_ask O (n := 100000) (q := 45) (by kernel_rfl) ?_
    refine fine_par O (n := 100000) (q := 5) 35 par35 (by kernel_rfl) (by kernel_rfl) (by kernel_rfl) (by kernel_rfl) (by kernel_rfl) ?_
    intro g
    refine fine_ask O (n := 100000) (q := 4) (by kernel_rfl) ?_
    refine fine_ask O (n := 100000) (q := 29) (by kernel_rfl) ?_
    refine fine_ask O (n := 100000) (q := 11) (by kernel_rfl) ?_
    refine fine_ask O (n := 100000) (q := 1) (by kernel_rfl) ?_
    refine fine_same O (n := 100000) (q := 1000) 691 629 (by kernel_rfl) (by kernel_rfl) (by kernel_rfl) ?_
    exact fine_true (by kernel_rfl) hR
  · intro P t m p D O hR
    refine fine_go O (n := 100000) (q := 4) ?_
    refine fine_ask O (n := 100000) (q := 2) (by kernel_rfl) ?_
    refine fine_ask O (n := 100000) (q := 2) (by kernel_rfl) ?_
    refine fine_ask O (n := 100000) (q := 7) (by kernel_rfl) ?_
    refine fine_ask O (n := 100000) (q := 4) (by kernel_rfl) ?_
    refine fine_ask O (n := 100000) (q := 8) (by kernel_rfl) ?_
    refine fine_ask O (n := 100000) (q := 2) (by kernel_rfl) ?_
    refine fine_ask O (n := 100000) (q := 2) (by kernel_rfl) ?_
    refine fine_call O (n := 100000) (n' := 100000) (q := 0) (fun b c => by cases b <;> cases c <;> kernel_rfl) ?_
    refine fine_ask O (n := 100000) (q := 5) (by kernel_rfl) ?_
    refine fine_ask O (n := 100000) (q := 13) (by kernel_rfl) ?_
    refine fine_ask O (n := 100000) (q := 2) (by kernel_rfl) ?_
    refine fine_ask O (n := 100000) (q := 8) (by kernel_rfl) ?_
    refine fine_ask O (n := 100000) (q := 9) (by kernel_rfl) ?_
    refine fine_ask O (n := 100000) (q := 2) (by kernel_rfl) ?_
    refine fine_ask O (n := 100000) (q := 2) (by kernel_rfl) ?_
    refine fine_ask O (n := 100000) (q := 45) (by kernel_rfl) ?_
    refine fine_par O (n := 100000) (q := 5) 35 par35 (by kernel_rfl) (by kernel_rfl) (by kernel_rfl) (by kernel_rfl) (by kernel_rfl) ?_
    intro g
    refine fine_ask O (n := 100000) (q := 4) (by kernel_rfl) ?_
    refine fine_ask O (n := 100000) (q := 29) (by kernel_rfl) ?_
    refine fine_ask O (n := 100000) (q := 11) (by kernel_rfl) ?_
    refine fine_ask O (n := 100000) (q := 1) (by kernel_rfl) ?_
    refine fine_same O (n := 100000) (q := 1000) 691 629 (by kernel_rfl) (by kernel_rfl) (by kernel_rfl) ?_
    exact fine_true (by kernel_rfl) hR
end Mine

namespace Mine
theorem all_nil {α : Type} {p : α → Prop} : ∀ y ∈ ([] : List α), p y := fun _ h => nomatch h
theorem all_cons {α : Type} {p : α → Prop} {a : α} {l : List α} (h : p a) (t : ∀ y ∈ l, p y) : ∀ y ∈ a :: l, p y := fun y m => match m with
  | .head _ => h
  | .tail _ m => t y m
theorem run_of {k : Int} {x y z : Str} (h : RunOk k z) (e : z = x ++ y) : RunOk k (x ++ y) := e ▸ h
theorem runs0_0 : ∀ y ∈ behind0, RunOk 0 (⟨#[]⟩ ++ y) :=
  all_cons (run_of g10.2.1 (by kernel_rfl)) <| all_cons (run_of g10.2.2.2.2.2.1 (by kernel_rfl)) <| all_cons (run_of g10.2.2.2.1 (by kernel_rfl)) <| all_cons (run_of g10.2.2.2.2.2.2 (by kernel_rfl)) <| all_cons (run_of g10.2.2.1 (by kernel_rfl)) <| all_cons (run_of g10.2.2.2.2.1 (by kernel_rfl)) <| all_cons (run_of g10.1 (by kernel_rfl)) <| all_cons (run_of g08.2.2.2.2.2.2.2 (by kernel_rfl)) <| all_cons (run_of g04.2.2.2.2.2.2.1 (by kernel_rfl)) <| all_cons (run_of g04.2.2.2.2.2.2.2.1 (by kernel_rfl)) <| all_cons (run_of g07.2.2.2.2.2.2.2.2.2 (by kernel_rfl)) <| all_cons (run_of g02.2.2.2.2.2.2.1 (by kernel_rfl)) <| all_nil
theorem runs0_1 : ∀ y ∈ behind0, RunOk 0 (⟨#[43]⟩ ++ y) :=
  all_cons (run_of g09.2.1 (by kernel_rfl)) <| all_cons (run_of g09.2.2.2.2.2.1 (by kernel_rfl)) <| all_cons (run_of g09.2.2.2.1 (by kernel_rfl)) <| all_cons (run_of g09.2.2.2.2.2.2 (by kernel_rfl)) <| all_cons (run_of g09.2.2.1 (by kernel_rfl)) <| all_cons (run_of g09.2.2.2.2.1 (by kernel_rfl)) <| all_cons (run_of g09.1 (by kernel_rfl)) <| all_cons (run_of g06.2.2.2.2.2.2.2.1 (by kernel_rfl)) <| all_cons (run_of g02.2.2.2.2.2.2.2.2.2 (by kernel_rfl)) <| all_cons (run_of g00.2.2.2.2.2.2.2.2.1 (by kernel_rfl)) <| all_cons (run_of g06.2.2.2.2.2.1 (by kernel_rfl)) <| all_cons (run_of g02.2.2.2.2.2.2.2.1 (by kernel_rfl)) <| all_nil
theorem runs0_2 : ∀ y ∈ behind0, RunOk 0 (⟨#[45]⟩ ++ y) :=
  all_cons (run_of g11.2.1 (by kernel_rfl)) <| all_cons (run_of g11.2.2.2.2.2.1 (by kernel_rfl)) <| all_cons (run_of g11.2.2.2.1 (by kernel_rfl)) <| all_cons (run_of g11.2.2.2.2.2.2 (by kernel_rfl)) <| all_cons (run_of g11.2.2.1 (by kernel_rfl)) <| all_cons (run_of g11.2.2.2.2.1 (by kernel_rfl)) <| all_cons (run_of g11.1 (by kernel_rfl)) <| all_cons (run_of g07.2.2.2.2.2.2.2.1 (by kernel_rfl)) <| all_cons (run_of g03.2.2.2.1 (by kernel_rfl)) <| all_cons (run_of g02.2.2.2.2.2.1 (by kernel_rfl)) <| all_cons (run_of g07.2.2.1 (by kernel_rfl)) <| all_cons (run_of g03.2.1 (by kernel_rfl)) <| all_nil
theorem runs0_3 : ∀ y ∈ behind0, RunOk 0 (⟨#[49]⟩ ++ y) :=
  all_cons (run_of g13.2.1 (by kernel_rfl)) <| all_cons (run_of g13.2.2.2.2.2.1 (by kernel_rfl)) <| all_cons (run_of g13.2.2.2.1 (by kernel_rfl)) <| all_cons (run_of g13.2.2.2.2.2.2 (by kernel_rfl)) <| all_cons (run_of g13.2.2.1 (by kernel_rfl)) <| all_cons (run_of g13.2.2.2.2.1 (by kernel_rfl)) <| all_cons (run_of g13.1 (by kernel_rfl)) <| all_cons (run_of g08.2.2.2.1 (by kernel_rfl)) <| all_cons (run_of g08.2.2.1 (by kernel_rfl)) <| all_cons (run_of g04.2.2.2.1 (by kernel_rfl)) <| all_cons (run_of g07.2.2.2.2.2.2.2.2.1 (by kernel_rfl)) <| all_cons (run_of g03.2.2.2.2.1 (by kernel_rfl)) <| all_nil
theorem runs0_4 : ∀ y ∈ behind0, RunOk 0 (⟨#[45, 53, 51]⟩ ++ y) :=
  all_cons (run_of g15.2.1 (by kernel_rfl)) <| all_cons (run_of g15.2.2.2.2.2.1 (by kernel_rfl)) <| all_cons (run_of g15.2.2.2.1 (by kernel_rfl)) <| all_cons (run_of g15.2.2.2.2.2.2 (by kernel_rfl)) <| all_cons (run_of g15.2.2.1 (by kernel_rfl)) <| all_cons (run_of g15.2.2.2.2.1 (by kernel_rfl)) <| all_cons (run_of g15.1 (by kernel_rfl)) <| all_cons (run_of g07.2.2.2.2.2.2.1 (by kernel_rfl)) <| all_cons (run_of g07.2.2.2.2.2.1 (by kernel_rfl)) <| all_cons (run_of g02.2.2.2.2.1 (by kernel_rfl)) <| all_cons (run_of g07.2.2.2.2.1 (by kernel_rfl)) <| all_cons (run_of g07.2.2.2.1 (by kernel_rfl)) <| all_nil
theorem runs0_5 : ∀ y ∈ behind0, RunOk 0 (⟨#[43, 48]⟩ ++ y) :=
  all_cons (run_of g12.2.1 (by kernel_rfl)) <| all_cons (run_of g12.2.2.2.2.2.1 (by kernel_rfl)) <| all_cons (run_of g12.2.2.2.1 (by kernel_rfl)) <| all_cons (run_of g12.2.2.2.2.2.2 (by kernel_rfl)) <| all_cons (run_of g12.2.2.1 (by kernel_rfl)) <| all_cons (run_of g12.2.2.2.2.1 (by kernel_rfl)) <| all_cons (run_of g12.1 (by kernel_rfl)) <| all_cons (run_of g06.2.2.2.2.1 (by kernel_rfl)) <| all_cons (run_of g06.2.2.2.1 (by kernel_rfl)) <| all_cons (run_of g00.2.2.2.2.2.2.2.1 (by kernel_rfl)) <| all_cons (run_of g06.2.2.1 (by kernel_rfl)) <| all_cons (run_of g02.2.2.2.2.2.2.2.2.1 (by kernel_rfl)) <| all_nil
theorem runs0_6 : ∀ y ∈ behind0, RunOk 0 (⟨#[49, 50, 51]⟩ ++ y) :=
  all_cons (run_of g00.2.1 (by kernel_rfl)) <| all_cons (run_of g00.2.2.2.2.2.1 (by kernel_rfl)) <| all_cons (run_of g00.2.2.2.1 (by kernel_rfl)) <| all_cons (run_of g00.2.2.2.2.2.2.1 (by kernel_rfl)) <| all_cons (run_of g00.2.2.1 (by kernel_rfl)) <| all_cons (run_of g00.2.2.2.2.1 (by kernel_rfl)) <| all_cons (run_of g00.1 (by kernel_rfl)) <| all_cons (run_of g04.2.2.1 (by kernel_rfl)) <| all_cons (run_of g08.2.1 (by kernel_rfl)) <| all_cons (run_of g04.2.1 (by kernel_rfl)) <| all_cons (run_of g04.1 (by kernel_rfl)) <| all_cons (run_of g08.1 (by kernel_rfl)) <| all_nil
theorem runs0_7 : ∀ y ∈ behind0, RunOk 0 (⟨#[45, 45]⟩ ++ y) :=
  all_cons (run_of g05.2.2.2.2.2.2.1 (by kernel_rfl)) <| all_cons (run_of g06.1 (by kernel_rfl)) <| all_cons (run_of g05.2.2.2.2.2.2.2.2.1 (by kernel_rfl)) <| all_cons (run_of g06.2.1 (by kernel_rfl)) <| all_cons (run_of g05.2.2.2.2.2.2.2.1 (by kernel_rfl)) <| all_cons (run_of g05.2.2.2.2.2.2.2.2.2 (by kernel_rfl)) <| all_cons (run_of g05.2.2.2.2.2.1 (by kernel_rfl)) <| all_cons (run_of g02.2.2.1 (by kernel_rfl)) <| all_cons (run_of g02.1 (by kernel_rfl)) <| all_cons (run_of g02.2.1 (by kernel_rfl)) <| all_cons (run_of g01.2.2.2.2.2.2.2.2.2 (by kernel_rfl)) <| all_cons (run_of g03.2.2.1 (by kernel_rfl)) <| all_nil
theorem runs0_8 : ∀ y ∈ behind0, RunOk 0 (⟨#[45, 48, 48]⟩ ++ y) :=
  all_cons (run_of g16.2.1 (by kernel_rfl)) <| all_cons (run_of g16.2.2.2.2.2.1 (by kernel_rfl)) <| all_cons (run_of g16.2.2.2.1 (by kernel_rfl)) <| all_cons (run_of g16.2.2.2.2.2.2 (by kernel_rfl)) <| all_cons (run_of g16.2.2.1 (by kernel_rfl)) <| all_cons (run_of g16.2.2.2.2.1 (by kernel_rfl)) <| all_cons (run_of g16.1 (by kernel_rfl)) <| all_cons (run_of g07.2.1 (by kernel_rfl)) <| all_cons (run_of g07.1 (by kernel_rfl)) <| all_cons (run_of g02.2.2.2.1 (by kernel_rfl)) <| all_cons (run_of g06.2.2.2.2.2.2.2.2.2 (by kernel_rfl)) <| all_cons (run_of g06.2.2.2.2.2.2.2.2.1 (by kernel_rfl)) <| all_nil
theorem runs0_9 : ∀ y ∈ behind0, RunOk 0 (⟨#[43, 120]⟩ ++ y) :=
  all_cons (run_of g01.2.2.2.1 (by kernel_rfl)) <| all_cons (run_of g01.2.2.2.2.2.2.2.1 (by kernel_rfl)) <| all_cons (run_of g01.2.2.2.2.2.1 (by kernel_rfl)) <| all_cons (run_of g01.2.2.2.2.2.2.2.2.1 (by kernel_rfl)) <| all_cons (run_of g01.2.2.2.2.1 (by kernel_rfl)) <| all_cons (run_of g01.2.2.2.2.2.2.1 (by kernel_rfl)) <| all_cons (run_of g01.2.2.1 (by kernel_rfl)) <| all_cons (run_of g01.2.1 (by kernel_rfl)) <| all_cons (run_of g06.2.2.2.2.2.2.1 (by kernel_rfl)) <| all_cons (run_of g01.1 (by kernel_rfl)) <| all_cons (run_of g00.2.2.2.2.2.2.2.2.2 (by kernel_rfl)) <| all_cons (run_of g03.1 (by kernel_rfl)) <| all_nil
theorem runs0_10 : ∀ y ∈ behind0, RunOk 0 (⟨#[49, 43]⟩ ++ y) :=
  all_cons (run_of g04.2.2.2.2.2.2.2.2.2 (by kernel_rfl)) <| all_cons (run_of g05.2.2.2.1 (by kernel_rfl)) <| all_cons (run_of g05.2.1 (by kernel_rfl)) <| all_cons (run_of g05.2.2.2.2.1 (by kernel_rfl)) <| all_cons (run_of g05.1 (by kernel_rfl)) <| all_cons (run_of g05.2.2.1 (by kernel_rfl)) <| all_cons (run_of g04.2.2.2.2.2.2.2.2.1 (by kernel_rfl)) <| all_cons (run_of g03.2.2.2.2.2.2.2.2.2 (by kernel_rfl)) <| all_cons (run_of g03.2.2.2.2.2.2.2.1 (by kernel_rfl)) <| all_cons (run_of g03.2.2.2.2.2.2.2.2.1 (by kernel_rfl)) <| all_cons (run_of g03.2.2.2.2.2.2.1 (by kernel_rfl)) <| all_cons (run_of g03.2.2.2.2.2.1 (by kernel_rfl)) <| all_nil
theorem runs0_11 : ∀ y ∈ behind0, RunOk 0 (⟨#[57]⟩ ++ y) :=
  all_cons (run_of g14.2.1 (by kernel_rfl)) <| all_cons (run_of g14.2.2.2.2.2.1 (by kernel_rfl)) <| all_cons (run_of g14.2.2.2.1 (by kernel_rfl)) <| all_cons (run_of g14.2.2.2.2.2.2 (by kernel_rfl)) <| all_cons (run_of g14.2.2.1 (by kernel_rfl)) <| all_cons (run_of g14.2.2.2.2.1 (by kernel_rfl)) <| all_cons (run_of g14.1 (by kernel_rfl)) <| all_cons (run_of g08.2.2.2.2.2.2.1 (by kernel_rfl)) <| all_cons (run_of g08.2.2.2.2.2.1 (by kernel_rfl)) <| all_cons (run_of g04.2.2.2.2.2.1 (by kernel_rfl)) <| all_cons (run_of g08.2.2.2.2.1 (by kernel_rfl)) <| all_cons (run_of g04.2.2.2.2.1 (by kernel_rfl)) <| all_nil
theorem runs0 : ∀ x ∈ front0, ∀ y ∈ behind0, RunOk 0 (x ++ y) :=
  all_cons runs0_0 <| all_cons runs0_1 <| all_cons runs0_2 <| all_cons runs0_3 <| all_cons runs0_4 <| all_cons runs0_5 <| all_cons runs0_6 <| all_cons runs0_7 <| all_cons runs0_8 <| all_cons runs0_9 <| all_cons runs0_10 <| all_cons runs0_11 <| all_nil
theorem runs1_0 : ∀ y ∈ behind1, RunOk 1 (⟨#[]⟩ ++ y) :=
  all_cons (run_of g17.1 (by kernel_rfl)) <| all_cons (run_of g17.1 (by kernel_rfl)) <| all_cons (run_of g17.1 (by kernel_rfl)) <| all_cons (run_of g17.2.1 (by kernel_rfl)) <| all_cons (run_of g17.2.1 (by kernel_rfl)) <| all_cons (run_of g21.2.2.1 (by kernel_rfl)) <| all_cons (run_of g18.2.2.2.2.2.2.1 (by kernel_rfl)) <| all_cons (run_of g21.2.2.2.1 (by kernel_rfl)) <| all_nil
theorem runs1_1 : ∀ y ∈ behind1, RunOk 1 (⟨#[49]⟩ ++ y) :=
  all_cons (run_of g21.2.2.2.2.2.2.2.2.1 (by kernel_rfl)) <| all_cons (run_of g21.2.2.2.2.2.2.2.2.1 (by kernel_rfl)) <| all_cons (run_of g21.2.2.2.2.2.2.2.2.1 (by kernel_rfl)) <| all_cons (run_of g22.2.2.2.2.2.2.1 (by kernel_rfl)) <| all_cons (run_of g22.2.2.2.2.2.2.1 (by kernel_rfl)) <| all_cons (run_of g20.2.2.2.2.2.2.1 (by kernel_rfl)) <| all_cons (run_of g18.2.2.1 (by kernel_rfl)) <| all_cons (run_of g20.2.2.2.2.2.2.2.1 (by kernel_rfl)) <| all_nil
theorem runs1_2 : ∀ y ∈ behind1, RunOk 1 (⟨#[49, 50]⟩ ++ y) :=
  all_cons (run_of g21.2.2.2.2.2.2.2.2.2 (by kernel_rfl)) <| all_cons (run_of g21.2.2.2.2.2.2.2.2.2 (by kernel_rfl)) <| all_cons (run_of g21.2.2.2.2.2.2.2.2.2 (by kernel_rfl)) <| all_cons (run_of g22.2.2.2.2.2.1 (by kernel_rfl)) <| all_cons (run_of g22.2.2.2.2.2.1 (by kernel_rfl)) <| all_cons (run_of g20.2.2.2.2.1 (by kernel_rfl)) <| all_cons (run_of g18.2.1 (by kernel_rfl)) <| all_cons (run_of g20.2.2.2.2.2.1 (by kernel_rfl)) <| all_nil
theorem runs1_3 : ∀ y ∈ behind1, RunOk 1 (⟨#[48, 53]⟩ ++ y) :=
  all_cons (run_of g21.2.2.2.2.2.2.2.1 (by kernel_rfl)) <| all_cons (run_of g21.2.2.2.2.2.2.2.1 (by kernel_rfl)) <| all_cons (run_of g21.2.2.2.2.2.2.2.1 (by kernel_rfl)) <| all_cons (run_of g22.2.2.1 (by kernel_rfl)) <| all_cons (run_of g22.2.2.1 (by kernel_rfl)) <| all_cons (run_of g19.2.2.2.2.2.2.2.2.1 (by kernel_rfl)) <| all_cons (run_of g17.2.2.2.2.2.2.2.2.1 (by kernel_rfl)) <| all_cons (run_of g19.2.2.2.2.2.2.2.2.2 (by kernel_rfl)) <| all_nil
theorem runs1_4 : ∀ y ∈ behind1, RunOk 1 (⟨#[49, 50, 51]⟩ ++ y) :=
  all_cons (run_of g22.1 (by kernel_rfl)) <| all_cons (run_of g22.1 (by kernel_rfl)) <| all_cons (run_of g22.1 (by kernel_rfl)) <| all_cons (run_of g22.2.2.2.2.1 (by kernel_rfl)) <| all_cons (run_of g22.2.2.2.2.1 (by kernel_rfl)) <| all_cons (run_of g20.2.2.1 (by kernel_rfl)) <| all_cons (run_of g18.1 (by kernel_rfl)) <| all_cons (run_of g20.2.2.2.1 (by kernel_rfl)) <| all_nil
theorem runs1_5 : ∀ y ∈ behind1, RunOk 1 (⟨#[48]⟩ ++ y) :=
  all_cons (run_of g21.2.2.2.2.2.2.1 (by kernel_rfl)) <| all_cons (run_of g21.2.2.2.2.2.2.1 (by kernel_rfl)) <| all_cons (run_of g21.2.2.2.2.2.2.1 (by kernel_rfl)) <| all_cons (run_of g22.2.2.2.1 (by kernel_rfl)) <| all_cons (run_of g22.2.2.2.1 (by kernel_rfl)) <| all_cons (run_of g20.1 (by kernel_rfl)) <| all_cons (run_of g17.2.2.2.2.2.2.2.2.2 (by kernel_rfl)) <| all_cons (run_of g20.2.1 (by kernel_rfl)) <| all_nil
theorem runs1_6 : ∀ y ∈ behind1, RunOk 1 (⟨#[120]⟩ ++ y) :=
  all_cons (run_of g21.2.2.2.1 (by kernel_rfl)) <| all_cons (run_of g21.2.2.2.1 (by kernel_rfl)) <| all_cons (run_of g21.2.2.2.1 (by kernel_rfl)) <| all_cons (run_of g18.2.2.2.2.2.2.2.1 (by kernel_rfl)) <| all_cons (run_of g18.2.2.2.2.2.2.2.1 (by kernel_rfl)) <| all_cons (run_of g21.2.2.2.2.1 (by kernel_rfl)) <| all_cons (run_of g18.2.2.2.2.2.2.2.2.1 (by kernel_rfl)) <| all_cons (run_of g21.2.2.2.2.2.1 (by kernel_rfl)) <| all_nil
theorem runs1_7 : ∀ y ∈ behind1, RunOk 1 (⟨#[43, 51]⟩ ++ y) :=
  all_cons (run_of g19.2.2.1 (by kernel_rfl)) <| all_cons (run_of g19.2.2.1 (by kernel_rfl)) <| all_cons (run_of g19.2.2.1 (by kernel_rfl)) <| all_cons (run_of g17.2.2.2.2.1 (by kernel_rfl)) <| all_cons (run_of g17.2.2.2.2.1 (by kernel_rfl)) <| all_cons (run_of g19.2.2.2.1 (by kernel_rfl)) <| all_cons (run_of g17.2.2.2.2.2.1 (by kernel_rfl)) <| all_cons (run_of g19.2.2.2.2.1 (by kernel_rfl)) <| all_nil
theorem runs1_8 : ∀ y ∈ behind1, RunOk 1 (⟨#[45, 49]⟩ ++ y) :=
  all_cons (run_of g19.2.2.2.2.2.1 (by kernel_rfl)) <| all_cons (run_of g19.2.2.2.2.2.1 (by kernel_rfl)) <| all_cons (run_of g19.2.2.2.2.2.1 (by kernel_rfl)) <| all_cons (run_of g17.2.2.2.2.2.2.1 (by kernel_rfl)) <| all_cons (run_of g17.2.2.2.2.2.2.1 (by kernel_rfl)) <| all_cons (run_of g19.2.2.2.2.2.2.1 (by kernel_rfl)) <| all_cons (run_of g17.2.2.2.2.2.2.2.1 (by kernel_rfl)) <| all_cons (run_of g19.2.2.2.2.2.2.2.1 (by kernel_rfl)) <| all_nil
theorem runs1_9 : ∀ y ∈ behind1, RunOk 1 (⟨#[1635]⟩ ++ y) :=
  all_cons (run_of g18.2.2.2.2.2.2.2.2.2 (by kernel_rfl)) <| all_cons (run_of g18.2.2.2.2.2.2.2.2.2 (by kernel_rfl)) <| all_cons (run_of g18.2.2.2.2.2.2.2.2.2 (by kernel_rfl)) <| all_cons (run_of g17.2.2.1 (by kernel_rfl)) <| all_cons (run_of g17.2.2.1 (by kernel_rfl)) <| all_cons (run_of g19.1 (by kernel_rfl)) <| all_cons (run_of g17.2.2.2.1 (by kernel_rfl)) <| all_cons (run_of g19.2.1 (by kernel_rfl)) <| all_nil
theorem runs1_10 : ∀ y ∈ behind1, RunOk 1 (⟨#[49, 120]⟩ ++ y) :=
  all_cons (run_of g20.2.2.2.2.2.2.2.1 (by kernel_rfl)) <| all_cons (run_of g20.2.2.2.2.2.2.2.1 (by kernel_rfl)) <| all_cons (run_of g20.2.2.2.2.2.2.2.1 (by kernel_rfl)) <| all_cons (run_of g18.2.2.2.1 (by kernel_rfl)) <| all_cons (run_of g18.2.2.2.1 (by kernel_rfl)) <| all_cons (run_of g20.2.2.2.2.2.2.2.2.1 (by kernel_rfl)) <| all_cons (run_of g18.2.2.2.2.1 (by kernel_rfl)) <| all_cons (run_of g20.2.2.2.2.2.2.2.2.2 (by kernel_rfl)) <| all_nil
theorem runs1_11 : ∀ y ∈ behind1, RunOk 1 (⟨#[55]⟩ ++ y) :=
  all_cons (run_of g22.2.1 (by kernel_rfl)) <| all_cons (run_of g22.2.1 (by kernel_rfl)) <| all_cons (run_of g22.2.1 (by kernel_rfl)) <| all_cons (run_of g22.2.2.2.2.2.2.2 (by kernel_rfl)) <| all_cons (run_of g22.2.2.2.2.2.2.2 (by kernel_rfl)) <| all_cons (run_of g21.1 (by kernel_rfl)) <| all_cons (run_of g18.2.2.2.2.2.1 (by kernel_rfl)) <| all_cons (run_of g21.2.1 (by kernel_rfl)) <| all_nil
theorem runs1 : ∀ x ∈ front1, ∀ y ∈ behind1, RunOk 1 (x ++ y) :=
  all_cons runs1_0 <| all_cons runs1_1 <| all_cons runs1_2 <| all_cons runs1_3 <| all_cons runs1_4 <| all_cons runs1_5 <| all_cons runs1_6 <| all_cons runs1_7 <| all_cons runs1_8 <| all_cons runs1_9 <| all_cons runs1_10 <| all_cons runs1_11 <| all_nil
theorem runs2_0 : ∀ y ∈ behind2, RunOk 2 (⟨#[115, 101, 99, 111, 110, 100, 108, 121]⟩ ++ y) :=
  all_cons (run_of g27.2.2.2 (by kernel_rfl)) <| all_cons (run_of g27.2.2.2 (by kernel_rfl)) <| all_cons (run_of g27.2.2.2 (by kernel_rfl)) <| all_cons (run_of g27.2.2.2 (by kernel_rfl)) <| all_cons (run_of g25.2.2.2.1 (by kernel_rfl)) <| all_cons (run_of g25.2.2.2.2.1 (by kernel_rfl)) <| all_nil
theorem runs2_1 : ∀ y ∈ behind2, RunOk 2 (⟨#[77, 105, 110, 117, 116, 101, 108, 121]⟩ ++ y) :=
  all_cons (run_of g26.2.1 (by kernel_rfl)) <| all_cons (run_of g26.2.1 (by kernel_rfl)) <| all_cons (run_of g26.2.1 (by kernel_rfl)) <| all_cons (run_of g26.2.1 (by kernel_rfl)) <| all_cons (run_of g23.2.2.2.2.2.2.1 (by kernel_rfl)) <| all_cons (run_of g23.2.2.2.2.2.2.2 (by kernel_rfl)) <| all_nil
theorem runs2_2 : ∀ y ∈ behind2, RunOk 2 (⟨#[72, 79, 85, 82, 76, 89]⟩ ++ y) :=
  all_cons (run_of g26.1 (by kernel_rfl)) <| all_cons (run_of g26.1 (by kernel_rfl)) <| all_cons (run_of g26.1 (by kernel_rfl)) <| all_cons (run_of g26.1 (by kernel_rfl)) <| all_cons (run_of g23.2.2.2.2.1 (by kernel_rfl)) <| all_cons (run_of g23.2.2.2.2.2.1 (by kernel_rfl)) <| all_nil
theorem runs2_3 : ∀ y ∈ behind2, RunOk 2 (⟨#[100, 97, 105, 108, 121]⟩ ++ y) :=
  all_cons (run_of g27.2.1 (by kernel_rfl)) <| all_cons (run_of g27.2.1 (by kernel_rfl)) <| all_cons (run_of g27.2.1 (by kernel_rfl)) <| all_cons (run_of g27.2.1 (by kernel_rfl)) <| all_cons (run_of g24.2.2.2.2.2.2.2 (by kernel_rfl)) <| all_cons (run_of g25.1 (by kernel_rfl)) <| all_nil
theorem runs2_4 : ∀ y ∈ behind2, RunOk 2 (⟨#[87, 69, 69, 75, 76, 89]⟩ ++ y) :=
  all_cons (run_of g26.2.2.1 (by kernel_rfl)) <| all_cons (run_of g26.2.2.1 (by kernel_rfl)) <| all_cons (run_of g26.2.2.1 (by kernel_rfl)) <| all_cons (run_of g26.2.2.1 (by kernel_rfl)) <| all_cons (run_of g24.1 (by kernel_rfl)) <| all_cons (run_of g24.2.1 (by kernel_rfl)) <| all_nil
theorem runs2_5 : ∀ y ∈ behind2, RunOk 2 (⟨#[109, 111, 110, 116, 104, 108, 89]⟩ ++ y) :=
  all_cons (run_of g27.2.2.1 (by kernel_rfl)) <| all_cons (run_of g27.2.2.1 (by kernel_rfl)) <| all_cons (run_of g27.2.2.1 (by kernel_rfl)) <| all_cons (run_of g27.2.2.1 (by kernel_rfl)) <| all_cons (run_of g25.2.1 (by kernel_rfl)) <| all_cons (run_of g25.2.2.1 (by kernel_rfl)) <| all_nil
theorem runs2_6 : ∀ y ∈ behind2, RunOk 2 (⟨#[89, 101, 97, 114, 108, 121]⟩ ++ y) :=
  all_cons (run_of g27.1 (by kernel_rfl)) <| all_cons (run_of g27.1 (by kernel_rfl)) <| all_cons (run_of g27.1 (by kernel_rfl)) <| all_cons (run_of g27.1 (by kernel_rfl)) <| all_cons (run_of g24.2.2.2.2.2.1 (by kernel_rfl)) <| all_cons (run_of g24.2.2.2.2.2.2.1 (by kernel_rfl)) <| all_nil
theorem runs2_7 : ∀ y ∈ behind2, RunOk 2 (⟨#[89, 69, 65, 82, 76]⟩ ++ y) :=
  all_cons (run_of g24.2.2.2.1 (by kernel_rfl)) <| all_cons (run_of g24.2.2.2.1 (by kernel_rfl)) <| all_cons (run_of g24.2.2.2.1 (by kernel_rfl)) <| all_cons (run_of g24.2.2.2.1 (by kernel_rfl)) <| all_cons (run_of g26.2.2.2 (by kernel_rfl)) <| all_cons (run_of g24.2.2.2.2.1 (by kernel_rfl)) <| all_nil
theorem runs2_8 : ∀ y ∈ behind2, RunOk 2 (⟨#[]⟩ ++ y) :=
  all_cons (run_of g23.1 (by kernel_rfl)) <| all_cons (run_of g23.1 (by kernel_rfl)) <| all_cons (run_of g23.1 (by kernel_rfl)) <| all_cons (run_of g23.1 (by kernel_rfl)) <| all_cons (run_of g24.2.2.1 (by kernel_rfl)) <| all_cons (run_of g25.2.2.2.2.2 (by kernel_rfl)) <| all_nil
theorem runs2_9 : ∀ y ∈ behind2, RunOk 2 (⟨#[68, 65, 73, 76, 89, 32]⟩ ++ y) :=
  all_cons (run_of g23.2.1 (by kernel_rfl)) <| all_cons (run_of g23.2.1 (by kernel_rfl)) <| all_cons (run_of g23.2.1 (by kernel_rfl)) <| all_cons (run_of g23.2.1 (by kernel_rfl)) <| all_cons (run_of g23.2.2.1 (by kernel_rfl)) <| all_cons (run_of g23.2.2.2.1 (by kernel_rfl)) <| all_nil
theorem runs2 : ∀ x ∈ front2, ∀ y ∈ behind2, RunOk 2 (x ++ y) :=
  all_cons runs2_0 <| all_cons runs2_1 <| all_cons runs2_2 <| all_cons runs2_3 <| all_cons runs2_4 <| all_cons runs2_5 <| all_cons runs2_6 <| all_cons runs2_7 <| all_cons runs2_8 <| all_cons runs2_9 <| all_nil
theorem runs3_0 : ∀ y ∈ behind3, RunOk 3 (⟨#[]⟩ ++ y) :=
  all_cons (run_of g32.2.2.2.2.2 (by kernel_rfl)) <| all_cons (run_of g33.2.2.2.1 (by kernel_rfl)) <| all_cons (run_of g33.1 (by kernel_rfl)) <| all_cons (run_of g33.2.2.1 (by kernel_rfl)) <| all_cons (run_of g28.2.2.2.2.2.1 (by kernel_rfl)) <| all_cons (run_of g28.2.2.2.2.2.2.1 (by kernel_rfl)) <| all_cons (run_of g28.2.2.2.2.2.2.2 (by kernel_rfl)) <| all_cons (run_of g29.2.1 (by kernel_rfl)) <| all_cons (run_of g29.2.2.2.2.1 (by kernel_rfl)) <| all_cons (run_of g33.2.1 (by kernel_rfl)) <| all_nil
theorem runs3_1 : ∀ y ∈ behind3, RunOk 3 (⟨#[]⟩ ++ y) :=
  all_cons (run_of g32.2.2.2.2.2 (by kernel_rfl)) <| all_cons (run_of g33.2.2.2.1 (by kernel_rfl)) <| all_cons (run_of g33.1 (by kernel_rfl)) <| all_cons (run_of g33.2.2.1 (by kernel_rfl)) <| all_cons (run_of g28.2.2.2.2.2.1 (by kernel_rfl)) <| all_cons (run_of g28.2.2.2.2.2.2.1 (by kernel_rfl)) <| all_cons (run_of g28.2.2.2.2.2.2.2 (by kernel_rfl)) <| all_cons (run_of g29.2.1 (by kernel_rfl)) <| all_cons (run_of g29.2.2.2.2.1 (by kernel_rfl)) <| all_cons (run_of g33.2.1 (by kernel_rfl)) <| all_nil
theorem runs3_2 : ∀ y ∈ behind3, RunOk 3 (⟨#[43]⟩ ++ y) :=
  all_cons (run_of g32.1 (by kernel_rfl)) <| all_cons (run_of g32.2.2.2.2.1 (by kernel_rfl)) <| all_cons (run_of g32.2.1 (by kernel_rfl)) <| all_cons (run_of g32.2.2.2.1 (by kernel_rfl)) <| all_cons (run_of g28.2.2.1 (by kernel_rfl)) <| all_cons (run_of g28.2.2.2.1 (by kernel_rfl)) <| all_cons (run_of g28.2.2.2.2.1 (by kernel_rfl)) <| all_cons (run_of g29.1 (by kernel_rfl)) <| all_cons (run_of g29.2.2.2.1 (by kernel_rfl)) <| all_cons (run_of g32.2.2.1 (by kernel_rfl)) <| all_nil
theorem runs3_3 : ∀ y ∈ behind3, RunOk 3 (⟨#[45]⟩ ++ y) :=
  all_cons (run_of g33.2.2.2.2.1 (by kernel_rfl)) <| all_cons (run_of g34.2.2.2 (by kernel_rfl)) <| all_cons (run_of g33.2.2.2.2.2 (by kernel_rfl)) <| all_cons (run_of g34.2.1 (by kernel_rfl)) <| all_cons (run_of g34.2.2.1 (by kernel_rfl)) <| all_cons (run_of g28.1 (by kernel_rfl)) <| all_cons (run_of g28.2.1 (by kernel_rfl)) <| all_cons (run_of g29.2.2.1 (by kernel_rfl)) <| all_cons (run_of g31.2.2.2.2.2.2.2 (by kernel_rfl)) <| all_cons (run_of g34.1 (by kernel_rfl)) <| all_nil
theorem runs3_4 : ∀ y ∈ behind3, RunOk 3 (⟨#[45, 45]⟩ ++ y) :=
  all_cons (run_of g30.2.2.2.2.2.2.2.1 (by kernel_rfl)) <| all_cons (run_of g31.2.2.2.2.2.1 (by kernel_rfl)) <| all_cons (run_of g30.2.2.2.2.2.2.2.2 (by kernel_rfl)) <| all_cons (run_of g31.2.2.1 (by kernel_rfl)) <| all_cons (run_of g31.2.2.2.1 (by kernel_rfl)) <| all_cons (run_of g31.2.2.2.2.1 (by kernel_rfl)) <| all_cons (run_of g31.2.2.2.2.2.2.1 (by kernel_rfl)) <| all_cons (run_of g30.2.2.2.2.2.2.1 (by kernel_rfl)) <| all_cons (run_of g31.2.1 (by kernel_rfl)) <| all_cons (run_of g31.1 (by kernel_rfl)) <| all_nil
theorem runs3_5 : ∀ y ∈ behind3, RunOk 3 (⟨#[120]⟩ ++ y) :=
  all_cons (run_of g29.2.2.2.2.2.2.1 (by kernel_rfl)) <| all_cons (run_of g30.2.2.2.2.1 (by kernel_rfl)) <| all_cons (run_of g29.2.2.2.2.2.2.2.1 (by kernel_rfl)) <| all_cons (run_of g30.2.1 (by kernel_rfl)) <| all_cons (run_of g30.2.2.1 (by kernel_rfl)) <| all_cons (run_of g30.2.2.2.1 (by kernel_rfl)) <| all_cons (run_of g30.2.2.2.2.2.1 (by kernel_rfl)) <| all_cons (run_of g29.2.2.2.2.2.1 (by kernel_rfl)) <| all_cons (run_of g30.1 (by kernel_rfl)) <| all_cons (run_of g29.2.2.2.2.2.2.2.2 (by kernel_rfl)) <| all_nil
theorem runs3 : ∀ x ∈ front3, ∀ y ∈ behind3, RunOk 3 (x ++ y) :=
  all_cons runs3_0 <| all_cons runs3_1 <| all_cons runs3_2 <| all_cons runs3_3 <| all_cons runs3_4 <| all_cons runs3_5 <| all_nil
theorem all_runs : AllRuns := ⟨runs0, runs1, runs2, runs3⟩
theorem run_nil : RunOk 3 ⟨#[45, 55]⟩ := g34.2.2.2
end Mine

open PySem.W.ZRun
set_option maxRecDepth 100000
namespace Mine
theorem walk : lay.1 := by
  intro w s₀ s₁ mg mb G y fa o pm cd doc dV kV ho hd hcd hD hmg hg args vals as L hpre hlay hrd hwl hlo
  z_open y L KX ZH ZN ZT
  clear hd
  refine Ground.open G ?_
  intro T B D TE TW
  wrow_args hpre hlay hrd hwl hlo
  obtain ⟨hat, hsz⟩ := script_at L
  have htk := script_toks L ZT
  rw [ZN] at hat hsz
  subst hat
  x_fa T KX hmg
  all_lens
  rename_i xs c1 c2 l1 l2 l3 hi hb
  exact walk_core all_runs run_nil w s₁ _ _ hg hsz htk ZH (script_obj L (by assumption)) hi (by omega) _ _
    (fun V O T m ch h i e R => z_endT O R e (fun _ => rfl) (by kernel_rfl))
end Mine

theorem PySem.Challenge.cw_bl0006_01_holds : PySem.Challenge.rw_bl0006_01.Holds :=
  Mine.lay.2 ⟨Mine.walk⟩
