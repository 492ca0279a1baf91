import PyProof.Rows.All
import Wide.All
import OpenK.AllK
import Wide.FinOn
import PySem.Challenge.RW_jr0027_01
open PySem PySem.W PySem.Calls PyProof.Rows
set_option Elab.async false
set_option linter.unusedVariables false
section
namespace Mine
/-- no decoder that holds a bytearray (the one thing of the stack that bytearray.__init__ asks for and that no Around tells) -/
def FineC (c : Code) : Prop := ∀ id args, c = .builtin id args → Builtin.Bytes.decodersThatHold.contains id = false
def Fine (l : List (Code × Pos)) : Prop := ∀ x ∈ l, FineC x.1
theorem Fine.nil : Fine [] := fun _ h => nomatch h
theorem Fine.cons {c : Code} {p : Pos} {l : List (Code × Pos)} (h : FineC c) (t : Fine l) : Fine ((c, p) :: l) := fun x hx => (List.mem_cons.mp hx).elim (fun e => e ▸ h) (t x)
theorem fineC_call {f : Value} {args : Args} : FineC (.call f args) := fun _ _ e => nomatch e
theorem fineC_func {b : List Stmt} {env : Env} : FineC (.func b env) := fun _ _ e => nomatch e
theorem fineC_builtin {id : String} {args : Args} (h : Builtin.Bytes.decodersThatHold.contains id = false) : FineC (.builtin id args) := fun _ _ e => by cases e; exact h
def wpG {α : Type} (M : Model) (A : Around) (t : Sem α) (Q : α → Shared → Prop) (s : Shared) : Prop :=
  ∀ Γ p, Γ.In A → FineC Γ.code → Fine Γ.below → Sem.wp M Γ t (fun a _ s' => Q a s') (fun _ _ _ => False) p s
def codeG (M : Model) (A : Around) (c : Code) (R : Result → Shared → Prop) (s : Shared) : Prop :=
  ∀ Γ p, Γ.code = c → Γ.Below A → Fine Γ.below → wpCode M Γ R p s
abbrev NoE : Value → Shared → Prop := fun _ _ => False
section
variable {α β : Type} {M : Model} {A : Around} {s : Shared}
theorem wpG.any {t : Sem α} {Q : α → Shared → Prop} (h : wpAny M A t Q NoE s) : wpG M A t Q s := fun Γ p hΓ _ _ => h Γ p hΓ
theorem codeG.any {c : Code} {R : Result → Shared → Prop} (h : codeAny M A c R s) : codeG M A c R s := fun Γ p hc hΓ _ => h Γ p hc hΓ
theorem wpG.mono {t : Sem α} {Q Q' : α → Shared → Prop} (h : wpG M A t Q s) (hQ : ∀ a s, Q a s → Q' a s) : wpG M A t Q' s :=
  fun Γ p hΓ c f => Sem.wp_mono M Γ t (fun a _ s => hQ a s) (fun _ _ _ e => e) p s (h Γ p hΓ c f)
theorem wpG.pure {a : α} {Q : α → Shared → Prop} (h : Q a s) : wpG M A (Pure.pure a) Q s := fun _ _ _ _ _ => h
theorem wpG.bind {m : Sem α} {f : α → Sem β} {Q : β → Shared → Prop} (h : wpG M A m (fun a s' => wpG M A (f a) Q s') s) : wpG M A (m >>= f) Q s := fun Γ p hΓ c d => by
  rw [Sem.wp_bind']
  exact Sem.wp_mono M Γ m (fun a p' s' h' => h' Γ p' hΓ c d) (fun _ _ _ h' => h') p s (h Γ p hΓ c d)
theorem wpG.bindA {m : Sem α} {f : α → Sem β} {Q : β → Shared → Prop} (h : wpAny M A m (fun a s' => wpG M A (f a) Q s') NoE s) : wpG M A (m >>= f) Q s := wpG.bind (wpG.any h)
end
/-- the claim's thread starts on an empty stack: there is no decoder on it -/
theorem threadG {prog : Program} {w : World} {t : Sem PySem.Fin} {s : Shared} {R : Result → Shared → Prop} (hreg : s.asleep)
    (h : wpG (model prog w) callerA t (fun fin s' => ∃ f, fin = .done f ∧ (R (.ok f) s' ∧ leftWithCleanup s'.gens = false)) s) :
    ∃ n r s' s'', runN (denote table) prog w n s ⟨t, .builtin "claim.caller" {}, default, []⟩ = .halted (outcomeOf r) s' ∧
      schedN (denote table) prog w n (.single s ⟨t, .builtin "claim.caller" {}, default, []⟩) = .halted (outcomeOf r) s' ∧ s'.forget = s''.forget ∧ R r s'' := by
  have h' := h ⟨.builtin "claim.caller" {}, none, none, [], none⟩ default caller_in (fineC_builtin (by decide +kernel)) Fine.nil
  have h2 : Sem.wp (model prog w) ⟨.builtin "claim.caller" {}, none, none, [], none⟩ t (Sem.finPost (model prog w) ⟨.builtin "claim.caller" {}, none, none, [], none⟩ fun r s' => R r s' ∧ leftWithCleanup s'.gens = false) (fun e _ s' => R (.error e) s' ∧ leftWithCleanup s'.gens = false) default s :=
    Sem.wp_mono _ _ _ (fun fin p' s' hf => by
      obtain ⟨f, rfl, hf⟩ := hf
      exact hf) (fun _ _ _ hf => hf.elim) _ _ h'
  obtain ⟨n, r, s₁, s₂, hs, hn, hfo, hR⟩ := wp_halts_full (M := model prog w) (R := R) hreg h2
  exact ⟨n, r, s₂, s₁, hn, hs, hfo, hR⟩
abbrev WalkOG (q : Program) (loose : List Str) (XP : (Str → Option Value) → Heap → Prop) (YP : World → Heap → Prop) (r : RowW) (d : DefRec) (kwd : List (Str × Expr)) : Prop :=
  ∀ (w : World) (s₀ s₁ : Shared) (mg mb : Str → Option Value), Ground q loose r.records XP w s₀ mg mb s₁.heap → YP w s₁.heap → ∀ (a : Addr) (o : Obj) (pm cd doc dV kV : Value), s₁.heap.get? a = some o →
    o.data = .func { docDef d.name d.params d.body d.scope pm cd doc with defaults := dV, kwdefaults := kV } → s₁.heap.CodeRec cd d.name → Dflts mg s₁.heap d.params kwd dV kV → mg d.name = some (.ref a) → s₁.gens = #[] →
    ∀ (args : List WData) (vals : List Value) (as : List Addr), r.claim.pre args = true → WData.layableAll args = true → ReadsAllW r.records (classAt s₀.heap) s₁.heap vals args as → WellAll w.params s₁.heap vals args → (∀ a ∈ as, (a == sysModules) = false) →
      wpG (model r.prog w) callerA (PySem.call (.ref a) vals) (fun v s' => GoodWG r.claim (classAt s₀.heap) (ExcName.means s₀.heap) args s₁ (.ok (.ret v)) s') s₁
/-- the head, for a law walked in wpG -/
theorem PySem.W.holds_open {r : OpenRow} {q : Program} {loose : List Str} {Xt : Shared → Bool} {XP : (Str → Option Value) → Heap → Prop} {α : Type} {Yf : Shared → α} {Ya : World → α} {YP : World → Heap → Prop} {d : DefRec} {kwd : List (Str × Expr)} {N : Nat}
    (left : LeftO r.prog q loose Xt Yf Ya N) (hY : ∀ w s, Yf s = Ya w → YP w s.heap) (hYk : ∀ w h h', YP w h → (∀ b o, h.get? b = some o → h'.get? b = some o) → YP w h')
    (hX : ∀ s, Xt s = true → XP (s.heap.nsMap mainGlobals) s.heap) (hXk : ∀ mg h h', XP mg h → (∀ b o, h.get? b = some o → h'.get? b = some o) → XP mg h')
    (hdef : defOf q r.name = some (d, kwd)) (hp : r.prog.theDef r.name = some (d.params, d.body, d.scope)) (hk : kwWritten? d.params.kwonlyargs d.params.kw_defaults = some kwd) (hRf : ∀ s, Xt s = true → RecFacts r.records s.heap) (hwr : (!r.writes || r.records.isEmpty) = true)
    (k1 : r.wellSaid = true) (ok : (chainsOk q && opensWell r.prog && (frees r.toRowW && r.within.isEmpty)) = true) (hb : r.prog.bare) (hw : r.toRowW.promised)
    (call : WalkOG q loose XP YP r.toRowW d kwd) : r.Holds := by
  obtain ⟨ok12, ok3⟩ := Bool.and_eq_true_iff.mp ok
  obtain ⟨chains, opens⟩ := Bool.and_eq_true_iff.mp ok12
  obtain ⟨free, inside⟩ := Bool.and_eq_true_iff.mp ok3
  obtain ⟨hsame, hu, ha, hap, hm⟩ := frees_parts free
  have hwi : r.toRowW.claim.within = [] := List.isEmpty_iff.mp inside
  have hi := ident_freeW hu ha hap
  refine ⟨k1, hw, ⟨hb, opens, by show r.toRowW.makers.map _ = []; rw [hm]; rfl⟩, hw.witness, fun w => ⟨(left.behind hX chains w).1, fun s' hs' => ?_⟩⟩
  obtain ⟨s₀, hf, hg0, s, hT, hz, hgs, hg, G00, y⟩ := (left.behind (XP := fun mg h => XP mg h ∧ RecFacts r.records h) (fun s hs => ⟨hX s hs, hRf s hs⟩) chains w).2 s' hs'
  have RF := G00.X.2
  have G0 : Ground q loose [] XP w s (s.heap.nsMap mainGlobals) (s.heap.nsMap builtinsNs) s.heap := ⟨G00.T, G00.B, G00.D, G00.TE, G00.TD, G00.W, G00.X.1, G00.cls, G00.has, G00.apart, G00.once, G00.K⟩
  have G : Ground q loose r.records XP w s _ _ s.heap := RF.ground G0
  have hgens : s.gens = #[] := Array.eq_empty_of_size_eq_zero (beq_iff_eq.mp hgs)
  refine ⟨s₀, hf, hg0, s, hT, fun n hn => ?_, RF.1, RF.2.1, fun args hpre hlay ord hord => ?_⟩
  · obtain rfl : n = r.name := by split at hn <;> simp_all
    exact pinned_of_view hg G0 hdef hp hk
  obtain ⟨⟨vs, s₁⟩, hlaid⟩ := Option.isSome_iff_exists.mp (layAllW_isSome (P := w.params) (ord := ord) G.has args r.args s (pre_splitW hpre).1)
  have keeps := layAllW_keeps _ _ _ hlaid
  have hal := layAllW_rest _ _ _ hlaid
  obtain ⟨as, hrd, hin, hold⟩ := reads_layAllW hord _ _ _ hlaid hlay s₁.heap (fun _ _ e => e)
  have Ld : Laid r.records w s s₁ args vs as := ⟨⟨ord, hord, hlaid⟩, hrd, hin, hold, keeps, hal.1.trans hgens, hal.2.2.1⟩
  have G₁ := G.keeps hXk keeps
  obtain ⟨a, o, pm, cd, doc, dV, kV, h1, h2, h3, h4, h5⟩ := G₁.fn hdef
  have run := call w s s₁ _ _ G₁ (hYk _ _ _ (hY w s y) keeps) a o pm cd doc dV kV h2 h3 h4 h5 (defOf_name hdef ▸ h1) Ld.gens args vs as hpre hlay Ld.reads Ld.well (Ld.low G.low)
  have tree : wpG (model r.prog w) callerA (do match ← nsGet mainNs r.name with
      | some f => do ret (← PySem.call f vs)
      | none => unsupported "claim.caller:no-such-global")
      (fun fin s' => ∃ f, fin = .done f ∧ ((r.toRowW.claim.Ends s args vs s₁ (.ok f) s' ∧ s'.os = s.os ∧ (r.writes = true → namesKept r.prog r.keeps s.heap s'.heap ∧ ∀ x ∈ r.records, ∀ a, classAt s.heap x.1 = some a → recordClass s'.heap a x.1 (x.2.map (·.1)) = true)) ∧ leftWithCleanup s'.gens = false)) s₁ := by
    refine wpG.bindA (wpAny_nsGet G₁.T.g ?_)
    rw [h1]
    refine wpG.bind (wpG.mono run fun v s' g => wpG.pure ?_)
    have z := g.laid (c := r.toRowW.claim) hsame hwi hi Ld
    exact ⟨_, rfl, ⟨z.1, z.2.1, fun q => ⟨namesKept_of hT hg _ keeps g.2.1.old, noTable hwr q⟩⟩, leftWithCleanup_false_of_bare z.2.2⟩
  obtain ⟨k, res, s2, s3, hrun, hsched, hfo, hcase, hos, hkp⟩ := threadG (R := fun res s' => r.toRowW.claim.Ends s args vs s₁ res s' ∧ s'.os = s.os ∧ (r.writes = true → namesKept r.prog r.keeps s.heap s'.heap ∧ ∀ x ∈ r.records, ∀ a, classAt s.heap x.1 = some a → recordClass s'.heap a x.1 (x.2.map (·.1)) = true)) (Shared.asleep_of_life hal.2.2.2 hz) tree
  obtain ⟨eh, _, _, eo, _⟩ := Shared.forget_eq hfo
  have hcase := hcase.congr eh
  rw [← eh] at hkp
  rw [← eo] at hos
  have hlife : s2.heap.life = s.heap.life := (runN_life _ _ _ hrun).trans hal.2.2.2
  refine ⟨vs, s₁, hlaid, k, _, s2, hsched, ?_, (fun _ i x hx => by rw [hgens] at hx; simp at hx), hkp, by rw [hlife], Shared.rest_eq hos⟩
  rcases hcase with ⟨v, rfl, d1, d2, d3, d4, d5⟩ | ⟨e, ob, cls, rfl, d1, d2, d3, d4, d5⟩
  · exact .inl ⟨v, rfl, d1, d2, d3, fun b o y _ => d4 b o y, d5⟩
  · exact .inr ⟨e, ob, cls, rfl, d1, d2, d3, d4, fun b o y _ => d5 b o y⟩
end Mine
end
section
namespace Mine
def kids : Stmt → List Stmt
  | .FunctionDef _ _ b _ _ _ _ _ _ _ => b
  | .ClassDef _ _ _ b _ _ _ _ _ _ _ => b
  | _ => []
def pkIn : List Stmt → List Nat → Stmt
  | _, [] => .Pass ⟨0, 0, 0, 0⟩
  | l, [i] => l.getD i (.Pass ⟨0, 0, 0, 0⟩)
  | l, i :: r => pkIn (kids (l.getD i (.Pass ⟨0, 0, 0, 0⟩))) r
def pk (p : List Nat) : Stmt := pkIn PySem.Challenge.pw_jr0027_01.main.body p
/-- the data of a def's function: its written parts are the statement's own -/
abbrev fnD {st : Stmt} {name : Str} {args : Arguments} {body : List Stmt} {dec : List Expr} {ret : Option Expr} {tp : List TypeParam} {scope : Scope} {tsc : Option Scope} {bind : Str} {pos : Pos} (_ : st = .FunctionDef name args body dec ret tp scope tsc bind pos)
    (qual : Str) (glob : Addr) (clo : List (Str × Addr)) (dV kV doc pm : Value) (an : Option Addr) (code ct : Value) (bi : Addr) : FuncData :=
  ⟨name, qual, args, .stmts body, scope, glob, clo, dV, kV, doc, pm, an, code, ct, bi⟩
def fnQ (st : Stmt) (qual : Str) (glob : Addr) (clo : List (Str × Addr)) (dV kV doc pm : Value) (an : Option Addr) (code ct : Value) (bi : Addr) : FuncData := match st with
  | .FunctionDef name args body _ _ _ scope _ _ _ => ⟨name, qual, args, .stmts body, scope, glob, clo, dV, kV, doc, pm, an, code, ct, bi⟩
  | _ => default
set_option maxRecDepth 100000 in
set_option maxHeartbeats 8000000 in
noncomputable def hd.heap_39 (P : Params) : Frag :=
  (nat_lit 2, ⟨.none, none, (.dict #[⟨PyData.keyHash P "type.__subclasses__.Exception.0", .str "type.__subclasses__.Exception.0" 383, .int 128 0⟩, ⟨PyData.keyHash P "type.__subclasses__.Exception.n", .str "type.__subclasses__.Exception.n" 384, .int 1 0⟩] 2), #[]⟩) ::
  (nat_lit 3, ⟨.type "dict", none, (.dict #[⟨PyData.keyHash P "__name__", .str "__name__" 165, .str "law_jr0027_01" 1236⟩, ⟨PyData.keyHash P "__doc__", .str "__doc__" 166, .none⟩, ⟨PyData.keyHash P "__package__", .str "__package__" 167, .none⟩, ⟨PyData.keyHash P "__loader__", .str "__loader__" 168, .builtin "__main__.__loader__#opaque"⟩, ⟨PyData.keyHash P "__spec__", .str "__spec__" 169, .none⟩, ⟨PyData.keyHash P "__annotations__", .str "__annotations__" 170, .ref 6⟩, ⟨PyData.keyHash P "__builtins__", .str "__builtins__" 171, .ref 4⟩, ⟨PyData.keyHash P "__file__", .str "__file__" 173, .str "/claim/cut.py" 172⟩, ⟨PyData.keyHash P "__cached__", .str "__cached__" 174, .none⟩, ⟨PyData.keyHash P "_wall", .str "_wall" 193, .ref 21⟩, ⟨PyData.keyHash P "DosTime", .str "DosTime" 228, .ref 38⟩, ⟨PyData.keyHash P "DosDateTime", .str "DosDateTime" 352, .ref 104⟩, ⟨PyData.keyHash P "PyFATException", .str "PyFATException" 386, .ref 128⟩, ⟨PyData.keyHash P "BrokenLFNEntryException", .str "BrokenLFNEntryException" 402, .ref 141⟩, ⟨PyData.keyHash P "errno", .str "errno" 452, .ref 153⟩, ⟨PyData.keyHash P "FAT_OEM_ENCODING", .str "FAT_OEM_ENCODING" 454, .str "latin-1" 453⟩, ⟨PyData.keyHash P "encoded", .str "encoded" 460, .ref 162⟩, ⟨PyData.keyHash P "decoded", .str "decoded" 466, .ref 167⟩, ⟨PyData.keyHash P "decoded16", .str "decoded16" 472, .ref 172⟩, ⟨PyData.keyHash P "splitext", .str "splitext" 482, .ref 179⟩, ⟨PyData.keyHash P "init_check", .str "init_check" 489, .ref 186⟩, ⟨PyData.keyHash P "EightDotThree", .str "EightDotThree" 703, .ref 305⟩, ⟨PyData.keyHash P "FATDirectoryEntry", .str "FATDirectoryEntry" 1118, .ref 595⟩, ⟨PyData.keyHash P "FATLongDirectoryEntry", .str "FATLongDirectoryEntry" 1235, .ref 670⟩, ⟨PyData.keyHash P "_law_days", .str "_law_days" 1247, .ref 681⟩, ⟨PyData.keyHash P "_law_is_day", .str "_law_is_day" 1256, .ref 688⟩, ⟨PyData.keyHash P "_law_is_time", .str "_law_is_time" 1265, .ref 695⟩, ⟨PyData.keyHash P "_law_date", .str "_law_date" 1273, .ref 702⟩, ⟨PyData.keyHash P "_law_time", .str "_law_time" 1281, .ref 709⟩, ⟨PyData.keyHash P "_law_six", .str "_law_six" 1288, .ref 716⟩, ⟨PyData.keyHash P "_law_wide", .str "_law_wide" 1297, .ref 723⟩, ⟨PyData.keyHash P "_law_made", .str "_law_made" 1306, .ref 730⟩, ⟨PyData.keyHash P "_law_word", .str "_law_word" 1321, .ref 737⟩, ⟨PyData.keyHash P "_law_entry", .str "_law_entry" 1327, .ref 742⟩, ⟨PyData.keyHash P "_law_moment", .str "_law_moment" 1341, .ref 749⟩, ⟨PyData.keyHash P "law", .str "law" 1347, .ref 754⟩] 36), #[]⟩) ::
  (nat_lit 15, ⟨.type "tuple", none, (.seq #[] 0), #[]⟩) ::
  (nat_lit 17, ⟨.type "tuple", none, (.seq #[(.str "k" 190)] 0), #[]⟩) ::
  (nat_lit 18, ⟨.type "tuple", none, (.seq #[] 0), #[]⟩) ::
  (nat_lit 20, ⟨.type "code", none, (.fields #[(.str "_wall" 187), (.str "_wall" 188), (.str "/claim/cut.py" 189), (.int 1 0), (.int 1 0), (.int 0 0), (.int 0 0), (.int 3 0), (.ref 15), (.bool true), (.int 181 0), (.ref 16), .none, (.ref 17), (.ref 18), (.ref 19), (.int 191 0), (.int 1 0), (.str "/claim/cut.py" 192)]), #[]⟩) ::
  (nat_lit 21, ⟨.type "function", none, (.func (fnQ (pk [0]) "_wall" 3 [] .none .none .none (.str "__main__" 164) none (.ref 20) .none 0)), #[]⟩) ::
  (nat_lit 29, ⟨.type "tuple", none, (.seq #[] 0), #[]⟩) ::
  (nat_lit 31, ⟨.type "tuple", none, (.seq #[(.str "self" 211), (.str "hour" 212), (.str "minute" 213), (.str "second" 214)] 0), #[]⟩) ::
  (nat_lit 32, ⟨.type "tuple", none, (.seq #[] 0), #[]⟩) ::
  (nat_lit 34, ⟨.type "code", none, (.fields #[(.str "__init__" 208), (.str "DosTime.__init__" 209), (.str "/claim/cut.py" 210), (.int 7 0), (.int 4 0), (.int 0 0), (.int 0 0), (.int 3 0), (.ref 29), (.bool true), (.int 181 0), (.ref 30), .none, (.ref 31), (.ref 32), (.ref 33), (.int 215 0), (.int 7 0), (.str "/claim/cut.py" 216)]), #[]⟩) ::
  (nat_lit 35, ⟨.type "function", none, (.func (fnD (st := pk [2, 0]) rfl "DosTime.__init__" 3 [] .none .none .none (.str "pyfatfs.DosDateTime" 194) none (.ref 34) .none 0)), #[]⟩) ::
  (nat_lit 36, ⟨.type "tuple", none, (.seq #[(.str "hour" 218), (.str "minute" 219), (.str "second" 220)] 0), #[]⟩) ::
  (nat_lit 37, ⟨.type "dict", none, (.dict #[⟨PyData.keyHash P "__module__", .str "__module__" 203, .str "pyfatfs.DosDateTime" 194⟩, ⟨PyData.keyHash P "__firstlineno__", .str "__firstlineno__" 207, .int 5 206⟩, ⟨PyData.keyHash P "__init__", .str "__init__" 217, .ref 35⟩, ⟨PyData.keyHash P "__static_attributes__", .str "__static_attributes__" 221, .ref 36⟩, ⟨PyData.keyHash P "__dict__", .str "__dict__" 223, .ref 39⟩, ⟨PyData.keyHash P "__weakref__", .str "__weakref__" 225, .ref 40⟩, ⟨PyData.keyHash P "__doc__", .str "__doc__" 226, .none⟩] 4), #[]⟩) ::
  (nat_lit 38, ⟨.type "type", none, (.cls ⟨"DosTime", [.type "object"], [.ref 38, .type "object"], 37, "DosTime", true, [], [], false, none, false⟩), #[none, none, (some (.str "DosTime" 196)), (some (.str "DosTime" 204)), (some (.builtin "object.__new__")), (some (.bool true))]⟩) ::
  (nat_lit 39, ⟨.type "getset_descriptor", none, (.fields #[(.str "__dict__" 222), (.ref 38), (.builtin "function.__dict__"), (.builtin "function.__dict__#set")]), #[]⟩) ::
  (nat_lit 40, ⟨.type "getset_descriptor", none, (.fields #[(.str "__weakref__" 224), (.ref 38), (.builtin "ExceptionGroup.__weakref__"), .none]), #[]⟩) ::
  (nat_lit 50, ⟨.type "tuple", none, (.seq #[(.int 0 241), (.int 0 242), (.int 0 243)] 0), #[]⟩) ::
  (nat_lit 51, ⟨.type "tuple", none, (.seq #[] 0), #[]⟩) ::
  (nat_lit 53, ⟨.type "tuple", none, (.seq #[(.str "self" 247), (.str "year" 248), (.str "month" 249), (.str "day" 250), (.str "hour" 251), (.str "minute" 252), (.str "second" 253), (.str "days" 254), (.str "time" 255)] 0), #[]⟩) ::
  (nat_lit 54, ⟨.type "tuple", none, (.seq #[] 0), #[]⟩) ::
  (nat_lit 56, ⟨.type "code", none, (.fields #[(.str "__init__" 244), (.str "DosDateTime.__init__" 245), (.str "/claim/cut.py" 246), (.int 15 0), (.int 7 0), (.int 0 0), (.int 0 0), (.int 3 0), (.ref 51), (.bool true), (.int 181 0), (.ref 52), .none, (.ref 53), (.ref 54), (.ref 55), (.int 256 0), (.int 15 0), (.str "/claim/cut.py" 257)]), #[]⟩) ::
  (nat_lit 57, ⟨.type "function", none, (.func (fnD (st := pk [3, 0]) rfl "DosDateTime.__init__" 3 [] (.ref 50) .none .none (.str "pyfatfs.DosDateTime" 194) none (.ref 56) .none 0)), #[]⟩) ::
  (nat_lit 58, ⟨.type "tuple", none, (.seq #[] 0), #[]⟩) ::
  (nat_lit 60, ⟨.type "tuple", none, (.seq #[(.str "date" 262), (.str "time" 263)] 0), #[]⟩) ::
  (nat_lit 61, ⟨.type "tuple", none, (.seq #[] 0), #[]⟩) ::
  (nat_lit 63, ⟨.type "code", none, (.fields #[(.str "combine" 259), (.str "DosDateTime.combine" 260), (.str "/claim/cut.py" 261), (.int 31 0), (.int 2 0), (.int 0 0), (.int 0 0), (.int 3 0), (.ref 58), (.bool true), (.int 181 0), (.ref 59), .none, (.ref 60), (.ref 61), (.ref 62), (.int 264 0), (.int 31 0), (.str "/claim/cut.py" 265)]), #[]⟩) ::
  (nat_lit 64, ⟨.type "function", none, (.func (fnD (st := pk [3, 1]) rfl "DosDateTime.combine" 3 [] .none .none .none (.str "pyfatfs.DosDateTime" 194) (some 67) (.ref 63) .none 0)), #[]⟩) ::
  (nat_lit 65, ⟨.type "dict", none, (.dict #[⟨PyData.keyHash P "__module__", .str "__module__" 267, .str "pyfatfs.DosDateTime" 194⟩, ⟨PyData.keyHash P "__name__", .str "__name__" 270, .str "combine" 269⟩, ⟨PyData.keyHash P "__qualname__", .str "__qualname__" 273, .str "DosDateTime.combine" 272⟩, ⟨PyData.keyHash P "__doc__", .str "__doc__" 275, .none⟩, ⟨PyData.keyHash P "__annotations__", .str "__annotations__" 277, .ref 67⟩] 5), #[]⟩) ::
  (nat_lit 66, ⟨.type "staticmethod", (some 65), (.fields #[(.ref 64), (.bool false)]), #[]⟩) ::
  (nat_lit 67, ⟨.type "dict", none, (.dict #[] 0), #[]⟩) ::
  (nat_lit 68, ⟨.type "tuple", none, (.seq #[] 0), #[]⟩) ::
  (nat_lit 70, ⟨.type "tuple", none, (.seq #[(.str "self" 282), (.str "date" 283)] 0), #[]⟩) ::
  (nat_lit 71, ⟨.type "tuple", none, (.seq #[] 0), #[]⟩) ::
  (nat_lit 73, ⟨.type "code", none, (.fields #[(.str "serialize_date" 279), (.str "DosDateTime.serialize_date" 280), (.str "/claim/cut.py" 281), (.int 35 0), (.int 1 0), (.int 0 0), (.int 0 0), (.int 3 0), (.ref 68), (.bool true), (.int 181 0), (.ref 69), .none, (.ref 70), (.ref 71), (.ref 72), (.int 284 0), (.int 35 0), (.str "/claim/cut.py" 285)]), #[]⟩) ::
  (nat_lit 74, ⟨.type "function", none, (.func (fnD (st := pk [3, 2]) rfl "DosDateTime.serialize_date" 3 [] .none .none .none (.str "pyfatfs.DosDateTime" 194) none (.ref 73) .none 0)), #[]⟩) ::
  (nat_lit 75, ⟨.type "tuple", none, (.seq #[] 0), #[]⟩) ::
  (nat_lit 77, ⟨.type "tuple", none, (.seq #[(.str "self" 290), (.str "time" 291)] 0), #[]⟩) ::
  (nat_lit 78, ⟨.type "tuple", none, (.seq #[] 0), #[]⟩) ::
  (nat_lit 80, ⟨.type "code", none, (.fields #[(.str "serialize_time" 287), (.str "DosDateTime.serialize_time" 288), (.str "/claim/cut.py" 289), (.int 39 0), (.int 1 0), (.int 0 0), (.int 0 0), (.int 3 0), (.ref 75), (.bool true), (.int 181 0), (.ref 76), .none, (.ref 77), (.ref 78), (.ref 79), (.int 292 0), (.int 39 0), (.str "/claim/cut.py" 293)]), #[]⟩) ::
  (nat_lit 81, ⟨.type "function", none, (.func (fnD (st := pk [3, 3]) rfl "DosDateTime.serialize_time" 3 [] .none .none .none (.str "pyfatfs.DosDateTime" 194) none (.ref 80) .none 0)), #[]⟩) ::
  (nat_lit 82, ⟨.type "tuple", none, (.seq #[] 0), #[]⟩) ::
  (nat_lit 84, ⟨.type "tuple", none, (.seq #[(.str "dt" 298), (.str "day" 299), (.str "month" 300), (.str "year" 301)] 0), #[]⟩) ::
  (nat_lit 85, ⟨.type "tuple", none, (.seq #[] 0), #[]⟩) ::
  (nat_lit 87, ⟨.type "code", none, (.fields #[(.str "deserialize_date" 295), (.str "DosDateTime.deserialize_date" 296), (.str "/claim/cut.py" 297), (.int 44 0), (.int 1 0), (.int 0 0), (.int 0 0), (.int 3 0), (.ref 82), (.bool true), (.int 181 0), (.ref 83), .none, (.ref 84), (.ref 85), (.ref 86), (.int 302 0), (.int 44 0), (.str "/claim/cut.py" 303)]), #[]⟩) ::
  (nat_lit 88, ⟨.type "function", none, (.func (fnD (st := pk [3, 4]) rfl "DosDateTime.deserialize_date" 3 [] .none .none .none (.str "pyfatfs.DosDateTime" 194) (some 91) (.ref 87) .none 0)), #[]⟩) ::
  (nat_lit 89, ⟨.type "dict", none, (.dict #[⟨PyData.keyHash P "__module__", .str "__module__" 305, .str "pyfatfs.DosDateTime" 194⟩, ⟨PyData.keyHash P "__name__", .str "__name__" 308, .str "deserialize_date" 307⟩, ⟨PyData.keyHash P "__qualname__", .str "__qualname__" 311, .str "DosDateTime.deserialize_date" 310⟩, ⟨PyData.keyHash P "__doc__", .str "__doc__" 313, .none⟩, ⟨PyData.keyHash P "__annotations__", .str "__annotations__" 315, .ref 91⟩] 5), #[]⟩) ::
  (nat_lit 90, ⟨.type "staticmethod", (some 89), (.fields #[(.ref 88), (.bool false)]), #[]⟩) ::
  (nat_lit 91, ⟨.type "dict", none, (.dict #[] 0), #[]⟩) ::
  (nat_lit 92, ⟨.type "tuple", none, (.seq #[] 0), #[]⟩) ::
  (nat_lit 94, ⟨.type "tuple", none, (.seq #[(.str "tm" 320), (.str "second" 321), (.str "minute" 322), (.str "hour" 323)] 0), #[]⟩) ::
  (nat_lit 95, ⟨.type "tuple", none, (.seq #[] 0), #[]⟩) ::
  (nat_lit 97, ⟨.type "code", none, (.fields #[(.str "deserialize_time" 317), (.str "DosDateTime.deserialize_time" 318), (.str "/claim/cut.py" 319), (.int 54 0), (.int 1 0), (.int 0 0), (.int 0 0), (.int 3 0), (.ref 92), (.bool true), (.int 181 0), (.ref 93), .none, (.ref 94), (.ref 95), (.ref 96), (.int 324 0), (.int 54 0), (.str "/claim/cut.py" 325)]), #[]⟩) ::
  (nat_lit 98, ⟨.type "function", none, (.func (fnD (st := pk [3, 5]) rfl "DosDateTime.deserialize_time" 3 [] .none .none .none (.str "pyfatfs.DosDateTime" 194) (some 101) (.ref 97) .none 0)), #[]⟩) ::
  (nat_lit 99, ⟨.type "dict", none, (.dict #[⟨PyData.keyHash P "__module__", .str "__module__" 327, .str "pyfatfs.DosDateTime" 194⟩, ⟨PyData.keyHash P "__name__", .str "__name__" 330, .str "deserialize_time" 329⟩, ⟨PyData.keyHash P "__qualname__", .str "__qualname__" 333, .str "DosDateTime.deserialize_time" 332⟩, ⟨PyData.keyHash P "__doc__", .str "__doc__" 335, .none⟩, ⟨PyData.keyHash P "__annotations__", .str "__annotations__" 337, .ref 101⟩] 5), #[]⟩) ::
  (nat_lit 100, ⟨.type "staticmethod", (some 99), (.fields #[(.ref 98), (.bool false)]), #[]⟩) ::
  (nat_lit 101, ⟨.type "dict", none, (.dict #[] 0), #[]⟩) ::
  (nat_lit 102, ⟨.type "tuple", none, (.seq #[(.str "day" 339), (.str "hour" 340), (.str "minute" 341), (.str "month" 342), (.str "second" 343), (.str "year" 344)] 0), #[]⟩) ::
  (nat_lit 103, ⟨.type "dict", none, (.dict #[⟨PyData.keyHash P "__module__", .str "__module__" 236, .str "pyfatfs.DosDateTime" 194⟩, ⟨PyData.keyHash P "__firstlineno__", .str "__firstlineno__" 240, .int 13 239⟩, ⟨PyData.keyHash P "__init__", .str "__init__" 258, .ref 57⟩, ⟨PyData.keyHash P "combine", .str "combine" 278, .ref 66⟩, ⟨PyData.keyHash P "serialize_date", .str "serialize_date" 286, .ref 74⟩, ⟨PyData.keyHash P "serialize_time", .str "serialize_time" 294, .ref 81⟩, ⟨PyData.keyHash P "deserialize_date", .str "deserialize_date" 316, .ref 90⟩, ⟨PyData.keyHash P "deserialize_time", .str "deserialize_time" 338, .ref 100⟩, ⟨PyData.keyHash P "__static_attributes__", .str "__static_attributes__" 345, .ref 102⟩, ⟨PyData.keyHash P "__dict__", .str "__dict__" 347, .ref 105⟩, ⟨PyData.keyHash P "__weakref__", .str "__weakref__" 349, .ref 106⟩, ⟨PyData.keyHash P "__doc__", .str "__doc__" 350, .none⟩] 4), #[]⟩) ::
  (nat_lit 104, ⟨.type "type", none, (.cls ⟨"DosDateTime", [.type "object"], [.ref 104, .type "object"], 103, "DosDateTime", true, [], [], false, none, false⟩), #[none, none, (some (.str "DosDateTime" 229)), (some (.str "DosDateTime" 237)), (some (.builtin "object.__new__")), (some (.bool true))]⟩) ::
  (nat_lit 105, ⟨.type "getset_descriptor", none, (.fields #[(.str "__dict__" 346), (.ref 104), (.builtin "function.__dict__"), (.builtin "function.__dict__#set")]), #[]⟩) ::
  (nat_lit 106, ⟨.type "getset_descriptor", none, (.fields #[(.str "__weakref__" 348), (.ref 104), (.builtin "ExceptionGroup.__weakref__"), .none]), #[]⟩) ::
  (nat_lit 109, ⟨.type "tuple", none, (.seq #[(.type "Exception")] 0), #[]⟩) ::
  (nat_lit 112, ⟨.type "cell", none, (.cell (some (.ref 128))), #[]⟩) ::
  (nat_lit 117, ⟨.type "tuple", none, (.seq #[.none] 0), #[]⟩) ::
  (nat_lit 118, ⟨.type "tuple", none, (.seq #[(.ref 112)] 0), #[]⟩) ::
  (nat_lit 119, ⟨.type "tuple", none, (.seq #[(.str "__class__" 370)] 0), #[]⟩) ::
  (nat_lit 121, ⟨.type "tuple", none, (.seq #[(.str "self" 371), (.str "msg" 372), (.str "errno" 373)] 0), #[]⟩) ::
  (nat_lit 122, ⟨.type "tuple", none, (.seq #[] 0), #[]⟩) ::
  (nat_lit 124, ⟨.type "code", none, (.fields #[(.str "__init__" 367), (.str "PyFATException.__init__" 368), (.str "/claim/cut.py" 369), (.int 66 0), (.int 3 0), (.int 0 0), (.int 0 0), (.int 3 0), (.ref 119), (.bool true), (.int 181 0), (.ref 120), .none, (.ref 121), (.ref 122), (.ref 123), (.int 374 0), (.int 66 0), (.str "/claim/cut.py" 375)]), #[]⟩) ::
  (nat_lit 125, ⟨.type "function", none, (.func (fnQ (pk [5, 0]) "PyFATException.__init__" 3 [("__class__", 112)] (.ref 117) .none .none (.str "pyfatfs._exceptions" 353) none (.ref 124) (.ref 118) 0)), #[]⟩) ::
  (nat_lit 126, ⟨.type "tuple", none, (.seq #[(.str "errno" 377)] 0), #[]⟩) ::
  (nat_lit 127, ⟨.type "dict", none, (.dict #[⟨PyData.keyHash P "__module__", .str "__module__" 362, .str "pyfatfs._exceptions" 353⟩, ⟨PyData.keyHash P "__firstlineno__", .str "__firstlineno__" 366, .int 64 365⟩, ⟨PyData.keyHash P "__init__", .str "__init__" 376, .ref 125⟩, ⟨PyData.keyHash P "__static_attributes__", .str "__static_attributes__" 378, .ref 126⟩, ⟨PyData.keyHash P "__weakref__", .str "__weakref__" 381, .ref 129⟩, ⟨PyData.keyHash P "__doc__", .str "__doc__" 382, .none⟩] 4), #[]⟩) ::
  (nat_lit 128, ⟨.type "type", none, (.cls ⟨"PyFATException", [.type "Exception"], [.ref 128, .type "Exception", .type "BaseException", .type "object"], 127, "PyFATException", true, [], [.ref 141], false, none, false⟩), #[(some (.ref 109)), none, (some (.str "PyFATException" 355)), (some (.str "PyFATException" 363)), (some (.builtin "Exception.__new__")), (some (.bool true))]⟩) ::
  (nat_lit 129, ⟨.type "getset_descriptor", none, (.fields #[(.str "__weakref__" 380), (.ref 128), (.builtin "ExceptionGroup.__weakref__"), .none]), #[]⟩) ::
  (nat_lit 132, ⟨.type "tuple", none, (.seq #[(.ref 128)] 0), #[]⟩) ::
  (nat_lit 139, ⟨.type "tuple", none, (.seq #[] 0), #[]⟩) ::
  (nat_lit 140, ⟨.type "dict", none, (.dict #[⟨PyData.keyHash P "__module__", .str "__module__" 394, .str "pyfatfs._exceptions" 353⟩, ⟨PyData.keyHash P "__firstlineno__", .str "__firstlineno__" 398, .int 69 397⟩, ⟨PyData.keyHash P "__static_attributes__", .str "__static_attributes__" 399, .ref 139⟩, ⟨PyData.keyHash P "__doc__", .str "__doc__" 400, .none⟩] 2), #[]⟩) ::
  (nat_lit 141, ⟨.type "type", none, (.cls ⟨"BrokenLFNEntryException", [.ref 128], [.ref 141, .ref 128, .type "Exception", .type "BaseException", .type "object"], 140, "BrokenLFNEntryException", true, [], [], false, none, false⟩), #[(some (.ref 132)), none, (some (.str "BrokenLFNEntryException" 387)), (some (.str "BrokenLFNEntryException" 395)), (some (.builtin "Exception.__new__")), (some (.bool true))]⟩) ::
  (nat_lit 151, ⟨.type "tuple", none, (.seq #[] 0), #[]⟩) ::
  (nat_lit 152, ⟨.type "dict", none, (.dict #[⟨PyData.keyHash P "__module__", .str "__module__" 410, .str "pyfatfs._exceptions" 353⟩, ⟨PyData.keyHash P "__firstlineno__", .str "__firstlineno__" 414, .int 71 413⟩, ⟨PyData.keyHash P "ENOENT", .str "ENOENT" 416, .int 2 415⟩, ⟨PyData.keyHash P "ENXIO", .str "ENXIO" 418, .int 6 417⟩, ⟨PyData.keyHash P "E2BIG", .str "E2BIG" 420, .int 7 419⟩, ⟨PyData.keyHash P "EFAULT", .str "EFAULT" 422, .int 14 421⟩, ⟨PyData.keyHash P "EEXIST", .str "EEXIST" 424, .int 17 423⟩, ⟨PyData.keyHash P "ENOTDIR", .str "ENOTDIR" 426, .int 20 425⟩, ⟨PyData.keyHash P "EISDIR", .str "EISDIR" 428, .int 21 427⟩, ⟨PyData.keyHash P "EINVAL", .str "EINVAL" 430, .int 22 429⟩, ⟨PyData.keyHash P "EMFILE", .str "EMFILE" 432, .int 24 431⟩, ⟨PyData.keyHash P "EACCES", .str "EACCES" 434, .int 13 433⟩, ⟨PyData.keyHash P "ENOSPC", .str "ENOSPC" 436, .int 28 435⟩, ⟨PyData.keyHash P "EROFS", .str "EROFS" 438, .int 30 437⟩, ⟨PyData.keyHash P "ENAMETOOLONG", .str "ENAMETOOLONG" 440, .int 36 439⟩, ⟨PyData.keyHash P "EBADE", .str "EBADE" 442, .int 52 441⟩, ⟨PyData.keyHash P "ETOOMANYREFS", .str "ETOOMANYREFS" 444, .int 109 443⟩, ⟨PyData.keyHash P "__static_attributes__", .str "__static_attributes__" 445, .ref 151⟩, ⟨PyData.keyHash P "__dict__", .str "__dict__" 447, .ref 154⟩, ⟨PyData.keyHash P "__weakref__", .str "__weakref__" 449, .ref 155⟩, ⟨PyData.keyHash P "__doc__", .str "__doc__" 450, .none⟩] 4), #[]⟩) ::
  (nat_lit 153, ⟨.type "type", none, (.cls ⟨"errno", [.type "object"], [.ref 153, .type "object"], 152, "errno", true, [], [], false, none, false⟩), #[none, none, (some (.str "errno" 403)), (some (.str "errno" 411)), (some (.builtin "object.__new__")), (some (.bool true))]⟩) ::
  (nat_lit 154, ⟨.type "getset_descriptor", none, (.fields #[(.str "__dict__" 446), (.ref 153), (.builtin "function.__dict__"), (.builtin "function.__dict__#set")]), #[]⟩) ::
  (nat_lit 155, ⟨.type "getset_descriptor", none, (.fields #[(.str "__weakref__" 448), (.ref 153), (.builtin "ExceptionGroup.__weakref__"), .none]), #[]⟩) ::
  (nat_lit 158, ⟨.type "tuple", none, (.seq #[] 0), #[]⟩) ::
  (nat_lit 161, ⟨.type "code", none, (.fields #[(.str "encoded" 455), (.str "encoded" 456), (.str "/claim/cut.py" 457), (.int 88 0), (.int 1 0), (.int 0 0), (.int 0 0), (.int 3 0), (.ref 158), (.bool true), (.int 181 0), (.ref 159), .none, .none, .none, (.ref 160), (.int 458 0), (.int 88 0), (.str "/claim/cut.py" 459)]), #[]⟩) ::
  (nat_lit 162, ⟨.type "function", none, (.func (fnD (st := pk [9]) rfl "encoded" 3 [] .none .none .none (.str "pyfatfs._exceptions" 353) none (.ref 161) .none 0)), #[]⟩) ::
  (nat_lit 163, ⟨.type "tuple", none, (.seq #[] 0), #[]⟩) ::
  (nat_lit 166, ⟨.type "code", none, (.fields #[(.str "decoded" 461), (.str "decoded" 462), (.str "/claim/cut.py" 463), (.int 90 0), (.int 1 0), (.int 0 0), (.int 0 0), (.int 3 0), (.ref 163), (.bool true), (.int 181 0), (.ref 164), .none, .none, .none, (.ref 165), (.int 464 0), (.int 90 0), (.str "/claim/cut.py" 465)]), #[]⟩) ::
  (nat_lit 167, ⟨.type "function", none, (.func (fnQ (pk [10]) "decoded" 3 [] .none .none .none (.str "pyfatfs._exceptions" 353) none (.ref 166) .none 0)), #[]⟩) ::
  (nat_lit 168, ⟨.type "tuple", none, (.seq #[] 0), #[]⟩) ::
  (nat_lit 171, ⟨.type "code", none, (.fields #[(.str "decoded16" 467), (.str "decoded16" 468), (.str "/claim/cut.py" 469), (.int 92 0), (.int 1 0), (.int 0 0), (.int 0 0), (.int 3 0), (.ref 168), (.bool true), (.int 181 0), (.ref 169), .none, .none, .none, (.ref 170), (.int 470 0), (.int 92 0), (.str "/claim/cut.py" 471)]), #[]⟩) ::
  (nat_lit 172, ⟨.type "function", none, (.func (fnQ (pk [11]) "decoded16" 3 [] .none .none .none (.str "pyfatfs._exceptions" 353) none (.ref 171) .none 0)), #[]⟩) ::
  (nat_lit 173, ⟨.type "tuple", none, (.seq #[] 0), #[]⟩) ::
  (nat_lit 175, ⟨.type "tuple", none, (.seq #[(.str "path" 476), (.str "dot" 477), (.str "start" 478), (.str "k" 479)] 0), #[]⟩) ::
  (nat_lit 176, ⟨.type "tuple", none, (.seq #[] 0), #[]⟩) ::
  (nat_lit 178, ⟨.type "code", none, (.fields #[(.str "splitext" 473), (.str "splitext" 474), (.str "/claim/cut.py" 475), (.int 108 0), (.int 1 0), (.int 0 0), (.int 0 0), (.int 3 0), (.ref 173), (.bool true), (.int 181 0), (.ref 174), .none, (.ref 175), (.ref 176), (.ref 177), (.int 480 0), (.int 108 0), (.str "/claim/cut.py" 481)]), #[]⟩) ::
  (nat_lit 179, ⟨.type "function", none, (.func (fnD (st := pk [12]) rfl "splitext" 3 [] .none .none .none (.str "pyfatfs._exceptions" 353) none (.ref 178) .none 0)), #[]⟩) ::
  (nat_lit 180, ⟨.type "tuple", none, (.seq #[] 0), #[]⟩) ::
  (nat_lit 182, ⟨.type "tuple", none, (.seq #[(.str "one" 486)] 0), #[]⟩) ::
  (nat_lit 183, ⟨.type "tuple", none, (.seq #[] 0), #[]⟩) ::
  (nat_lit 185, ⟨.type "code", none, (.fields #[(.str "init_check" 483), (.str "init_check" 484), (.str "/claim/cut.py" 485), (.int 115 0), (.int 1 0), (.int 0 0), (.int 0 0), (.int 3 0), (.ref 180), (.bool true), (.int 181 0), (.ref 181), .none, (.ref 182), (.ref 183), (.ref 184), (.int 487 0), (.int 115 0), (.str "/claim/cut.py" 488)]), #[]⟩) ::
  (nat_lit 186, ⟨.type "function", none, (.func (fnQ (pk [13]) "init_check" 3 [] .none .none .none (.str "pyfatfs._exceptions" 353) none (.ref 185) .none 0)), #[]⟩) ::
  (nat_lit 194, ⟨.type "list", none, (.seq #[(.int 34 506), (.int 42 507), (.int 43 508), (.int 44 509), (.int 46 510), (.int 47 511), (.int 58 512), (.int 59 513), (.int 60 514), (.int 61 515), (.int 62 516), (.int 63 517), (.int 91 518), (.int 92 519), (.int 93 520), (.int 124 521)] 0), #[]⟩) ::
  (nat_lit 195, ⟨.type "tuple", none, (.seq #[(.str "latin-1" 453)] 0), #[]⟩) ::
  (nat_lit 196, ⟨.type "tuple", none, (.seq #[] 0), #[]⟩) ::
  (nat_lit 198, ⟨.type "tuple", none, (.seq #[(.str "self" 526), (.str "encoding" 527)] 0), #[]⟩) ::
  (nat_lit 199, ⟨.type "tuple", none, (.seq #[] 0), #[]⟩) ::
  (nat_lit 201, ⟨.type "code", none, (.fields #[(.str "__init__" 523), (.str "EightDotThree.__init__" 524), (.str "/claim/cut.py" 525), (.int 123 0), (.int 2 0), (.int 0 0), (.int 0 0), (.int 3 0), (.ref 196), (.bool true), (.int 181 0), (.ref 197), .none, (.ref 198), (.ref 199), (.ref 200), (.int 528 0), (.int 123 0), (.str "/claim/cut.py" 529)]), #[]⟩) ::
  (nat_lit 202, ⟨.type "function", none, (.func (fnD (st := pk [15, 2]) rfl "EightDotThree.__init__" 3 [] (.ref 195) .none .none (.str "pyfatfs.EightDotThree" 490) none (.ref 201) .none 0)), #[]⟩) ::
  (nat_lit 203, ⟨.type "tuple", none, (.seq #[] 0), #[]⟩) ::
  (nat_lit 205, ⟨.type "tuple", none, (.seq #[(.str "self" 534), (.str "name" 535), (.str "base" 536), (.str "ext" 537), (.str "sep" 538)] 0), #[]⟩) ::
  (nat_lit 206, ⟨.type "tuple", none, (.seq #[] 0), #[]⟩) ::
  (nat_lit 208, ⟨.type "code", none, (.fields #[(.str "as_text" 531), (.str "EightDotThree.as_text" 532), (.str "/claim/cut.py" 533), (.int 128 0), (.int 1 0), (.int 0 0), (.int 0 0), (.int 3 0), (.ref 203), (.bool true), (.int 181 0), (.ref 204), .none, (.ref 205), (.ref 206), (.ref 207), (.int 539 0), (.int 128 0), (.str "/claim/cut.py" 540)]), #[]⟩) ::
  (nat_lit 209, ⟨.type "function", none, (.func (fnQ (pk [15, 3]) "EightDotThree.as_text" 3 [] .none .none .none (.str "pyfatfs.EightDotThree" 490) none (.ref 208) .none 0)), #[]⟩) ::
  (nat_lit 210, ⟨.type "tuple", none, (.seq #[] 0), #[]⟩) ::
  (nat_lit 212, ⟨.type "tuple", none, (.seq #[(.str "self" 545)] 0), #[]⟩) ::
  (nat_lit 213, ⟨.type "tuple", none, (.seq #[] 0), #[]⟩) ::
  (nat_lit 215, ⟨.type "code", none, (.fields #[(.str "as_bytes" 542), (.str "EightDotThree.as_bytes" 543), (.str "/claim/cut.py" 544), (.int 137 0), (.int 1 0), (.int 0 0), (.int 0 0), (.int 3 0), (.ref 210), (.bool true), (.int 181 0), (.ref 211), .none, (.ref 212), (.ref 213), (.ref 214), (.int 546 0), (.int 137 0), (.str "/claim/cut.py" 547)]), #[]⟩) ::
  (nat_lit 216, ⟨.type "function", none, (.func (fnQ (pk [15, 4]) "EightDotThree.as_bytes" 3 [] .none .none .none (.str "pyfatfs.EightDotThree" 490) none (.ref 215) .none 0)), #[]⟩) ::
  (nat_lit 217, ⟨.type "tuple", none, (.seq #[] 0), #[]⟩) ::
  (nat_lit 219, ⟨.type "tuple", none, (.seq #[(.str "self" 552)] 0), #[]⟩) ::
  (nat_lit 220, ⟨.type "tuple", none, (.seq #[] 0), #[]⟩) ::
  (nat_lit 222, ⟨.type "code", none, (.fields #[(.str "get_unpadded_filename" 549), (.str "EightDotThree.get_unpadded_filename" 550), (.str "/claim/cut.py" 551), (.int 140 0), (.int 1 0), (.int 0 0), (.int 0 0), (.int 3 0), (.ref 217), (.bool true), (.int 181 0), (.ref 218), .none, (.ref 219), (.ref 220), (.ref 221), (.int 553 0), (.int 140 0), (.str "/claim/cut.py" 554)]), #[]⟩) ::
  (nat_lit 223, ⟨.type "function", none, (.func (fnQ (pk [15, 5]) "EightDotThree.get_unpadded_filename" 3 [] .none .none .none (.str "pyfatfs.EightDotThree" 490) none (.ref 222) .none 0)), #[]⟩) ::
  (nat_lit 224, ⟨.type "tuple", none, (.seq #[] 0), #[]⟩) ::
  (nat_lit 226, ⟨.type "tuple", none, (.seq #[(.str "name" 559)] 0), #[]⟩) ::
  (nat_lit 227, ⟨.type "tuple", none, (.seq #[] 0), #[]⟩) ::
  (nat_lit 229, ⟨.type "code", none, (.fields #[(.str "_raise_8dot3_nonconformant" 556), (.str "EightDotThree._raise_8dot3_nonconformant" 557), (.str "/claim/cut.py" 558), (.int 144 0), (.int 1 0), (.int 0 0), (.int 0 0), (.int 3 0), (.ref 224), (.bool true), (.int 181 0), (.ref 225), .none, (.ref 226), (.ref 227), (.ref 228), (.int 560 0), (.int 144 0), (.str "/claim/cut.py" 561)]), #[]⟩) ::
  (nat_lit 230, ⟨.type "function", none, (.func (fnQ (pk [15, 6]) "EightDotThree._raise_8dot3_nonconformant" 3 [] .none .none .none (.str "pyfatfs.EightDotThree" 490) (some 233) (.ref 229) .none 0)), #[]⟩) ::
  (nat_lit 231, ⟨.type "dict", none, (.dict #[⟨PyData.keyHash P "__module__", .str "__module__" 563, .str "pyfatfs.EightDotThree" 490⟩, ⟨PyData.keyHash P "__name__", .str "__name__" 566, .str "_raise_8dot3_nonconformant" 565⟩, ⟨PyData.keyHash P "__qualname__", .str "__qualname__" 569, .str "EightDotThree._raise_8dot3_nonconformant" 568⟩, ⟨PyData.keyHash P "__doc__", .str "__doc__" 571, .none⟩, ⟨PyData.keyHash P "__annotations__", .str "__annotations__" 573, .ref 233⟩] 5), #[]⟩) ::
  (nat_lit 232, ⟨.type "staticmethod", (some 231), (.fields #[(.ref 230), (.bool false)]), #[]⟩) ::
  (nat_lit 233, ⟨.type "dict", none, (.dict #[] 0), #[]⟩) ::
  (nat_lit 234, ⟨.type "tuple", none, (.seq #[] 0), #[]⟩) ::
  (nat_lit 236, ⟨.type "tuple", none, (.seq #[(.str "self" 578), (.str "name" 579)] 0), #[]⟩) ::
  (nat_lit 237, ⟨.type "tuple", none, (.seq #[] 0), #[]⟩) ::
  (nat_lit 239, ⟨.type "code", none, (.fields #[(.str "_set_name" 575), (.str "EightDotThree._set_name" 576), (.str "/claim/cut.py" 577), (.int 148 0), (.int 2 0), (.int 0 0), (.int 0 0), (.int 3 0), (.ref 234), (.bool true), (.int 181 0), (.ref 235), .none, (.ref 236), (.ref 237), (.ref 238), (.int 580 0), (.int 148 0), (.str "/claim/cut.py" 581)]), #[]⟩) ::
  (nat_lit 240, ⟨.type "function", none, (.func (fnQ (pk [15, 7]) "EightDotThree._set_name" 3 [] .none .none .none (.str "pyfatfs.EightDotThree" 490) none (.ref 239) .none 0)), #[]⟩) ::
  (nat_lit 241, ⟨.type "tuple", none, (.seq #[] 0), #[]⟩) ::
  (nat_lit 243, ⟨.type "tuple", none, (.seq #[(.str "self" 586), (.str "name" 587)] 0), #[]⟩) ::
  (nat_lit 244, ⟨.type "tuple", none, (.seq #[] 0), #[]⟩) ::
  (nat_lit 246, ⟨.type "code", none, (.fields #[(.str "set_byte_name" 583), (.str "EightDotThree.set_byte_name" 584), (.str "/claim/cut.py" 585), (.int 151 0), (.int 2 0), (.int 0 0), (.int 0 0), (.int 3 0), (.ref 241), (.bool true), (.int 181 0), (.ref 242), .none, (.ref 243), (.ref 244), (.ref 245), (.int 588 0), (.int 151 0), (.str "/claim/cut.py" 589)]), #[]⟩) ::
  (nat_lit 247, ⟨.type "function", none, (.func (fnQ (pk [15, 8]) "EightDotThree.set_byte_name" 3 [] .none .none .none (.str "pyfatfs.EightDotThree" 490) none (.ref 246) .none 0)), #[]⟩) ::
  (nat_lit 248, ⟨.type "tuple", none, (.seq #[] 0), #[]⟩) ::
  (nat_lit 250, ⟨.type "tuple", none, (.seq #[(.str "self" 594), (.str "name" 595)] 0), #[]⟩) ::
  (nat_lit 251, ⟨.type "tuple", none, (.seq #[] 0), #[]⟩) ::
  (nat_lit 253, ⟨.type "code", none, (.fields #[(.str "set_str_name" 591), (.str "EightDotThree.set_str_name" 592), (.str "/claim/cut.py" 593), (.int 154 0), (.int 2 0), (.int 0 0), (.int 0 0), (.int 3 0), (.ref 248), (.bool true), (.int 181 0), (.ref 249), .none, (.ref 250), (.ref 251), (.ref 252), (.int 596 0), (.int 154 0), (.str "/claim/cut.py" 597)]), #[]⟩) ::
  (nat_lit 254, ⟨.type "function", none, (.func (fnD (st := pk [15, 9]) rfl "EightDotThree.set_str_name" 3 [] .none .none .none (.str "pyfatfs.EightDotThree" 490) none (.ref 253) .none 0)), #[]⟩) ::
  (nat_lit 255, ⟨.type "tuple", none, (.seq #[] 0), #[]⟩) ::
  (nat_lit 257, ⟨.type "tuple", none, (.seq #[(.str "self" 602), (.str "chksum" 603), (.str "c" 604)] 0), #[]⟩) ::
  (nat_lit 258, ⟨.type "tuple", none, (.seq #[] 0), #[]⟩) ::
  (nat_lit 260, ⟨.type "code", none, (.fields #[(.str "checksum" 599), (.str "EightDotThree.checksum" 600), (.str "/claim/cut.py" 601), (.int 165 0), (.int 1 0), (.int 0 0), (.int 0 0), (.int 3 0), (.ref 255), (.bool true), (.int 181 0), (.ref 256), .none, (.ref 257), (.ref 258), (.ref 259), (.int 605 0), (.int 165 0), (.str "/claim/cut.py" 606)]), #[]⟩) ::
  (nat_lit 261, ⟨.type "function", none, (.func (fnQ (pk [15, 10]) "EightDotThree.checksum" 3 [] .none .none .none (.str "pyfatfs.EightDotThree" 490) none (.ref 260) .none 0)), #[]⟩) ::
  (nat_lit 262, ⟨.type "tuple", none, (.seq #[] 0), #[]⟩) ::
  (nat_lit 264, ⟨.type "tuple", none, (.seq #[(.str "name" 611), (.str "encoding" 612), (.str "c" 613)] 0), #[]⟩) ::
  (nat_lit 265, ⟨.type "tuple", none, (.seq #[] 0), #[]⟩) ::
  (nat_lit 267, ⟨.type "code", none, (.fields #[(.str "_check_characters" 608), (.str "EightDotThree._check_characters" 609), (.str "/claim/cut.py" 610), (.int 173 0), (.int 2 0), (.int 0 0), (.int 0 0), (.int 3 0), (.ref 262), (.bool true), (.int 181 0), (.ref 263), .none, (.ref 264), (.ref 265), (.ref 266), (.int 614 0), (.int 173 0), (.str "/claim/cut.py" 615)]), #[]⟩) ::
  (nat_lit 268, ⟨.type "function", none, (.func (fnD (st := pk [15, 11]) rfl "EightDotThree._check_characters" 3 [] .none .none .none (.str "pyfatfs.EightDotThree" 490) (some 271) (.ref 267) .none 0)), #[]⟩) ::
  (nat_lit 269, ⟨.type "dict", none, (.dict #[⟨PyData.keyHash P "__module__", .str "__module__" 617, .str "pyfatfs.EightDotThree" 490⟩, ⟨PyData.keyHash P "__name__", .str "__name__" 620, .str "_check_characters" 619⟩, ⟨PyData.keyHash P "__qualname__", .str "__qualname__" 623, .str "EightDotThree._check_characters" 622⟩, ⟨PyData.keyHash P "__doc__", .str "__doc__" 625, .none⟩, ⟨PyData.keyHash P "__annotations__", .str "__annotations__" 627, .ref 271⟩] 5), #[]⟩) ::
  (nat_lit 270, ⟨.type "staticmethod", (some 269), (.fields #[(.ref 268), (.bool false)]), #[]⟩) ::
  (nat_lit 271, ⟨.type "dict", none, (.dict #[] 0), #[]⟩) ::
  (nat_lit 272, ⟨.type "tuple", none, (.seq #[(.str "latin-1" 453)] 0), #[]⟩) ::
  (nat_lit 273, ⟨.type "tuple", none, (.seq #[] 0), #[]⟩) ::
  (nat_lit 275, ⟨.type "tuple", none, (.seq #[(.str "entry_name" 632), (.str "encoding" 633), (.str "root" 634), (.str "ext" 635), (.str "i" 636)] 0), #[]⟩) ::
  (nat_lit 276, ⟨.type "tuple", none, (.seq #[] 0), #[]⟩) ::
  (nat_lit 278, ⟨.type "code", none, (.fields #[(.str "is_8dot3_conform" 629), (.str "EightDotThree.is_8dot3_conform" 630), (.str "/claim/cut.py" 631), (.int 179 0), (.int 2 0), (.int 0 0), (.int 0 0), (.int 3 0), (.ref 273), (.bool true), (.int 181 0), (.ref 274), .none, (.ref 275), (.ref 276), (.ref 277), (.int 637 0), (.int 179 0), (.str "/claim/cut.py" 638)]), #[]⟩) ::
  (nat_lit 279, ⟨.type "function", none, (.func (fnD (st := pk [15, 12]) rfl "EightDotThree.is_8dot3_conform" 3 [] (.ref 272) .none .none (.str "pyfatfs.EightDotThree" 490) (some 282) (.ref 278) .none 0)), #[]⟩) ::
  (nat_lit 280, ⟨.type "dict", none, (.dict #[⟨PyData.keyHash P "__module__", .str "__module__" 640, .str "pyfatfs.EightDotThree" 490⟩, ⟨PyData.keyHash P "__name__", .str "__name__" 643, .str "is_8dot3_conform" 642⟩, ⟨PyData.keyHash P "__qualname__", .str "__qualname__" 646, .str "EightDotThree.is_8dot3_conform" 645⟩, ⟨PyData.keyHash P "__doc__", .str "__doc__" 648, .none⟩, ⟨PyData.keyHash P "__annotations__", .str "__annotations__" 650, .ref 282⟩] 5), #[]⟩) ::
  (nat_lit 281, ⟨.type "staticmethod", (some 280), (.fields #[(.ref 279), (.bool false)]), #[]⟩) ::
  (nat_lit 282, ⟨.type "dict", none, (.dict #[] 0), #[]⟩) ::
  (nat_lit 283, ⟨.type "tuple", none, (.seq #[] 0), #[]⟩) ::
  (nat_lit 285, ⟨.type "tuple", none, (.seq #[(.str "name" 655), (.str "root" 656), (.str "ext" 657)] 0), #[]⟩) ::
  (nat_lit 286, ⟨.type "tuple", none, (.seq #[] 0), #[]⟩) ::
  (nat_lit 288, ⟨.type "code", none, (.fields #[(.str "_pad_8dot3_name" 652), (.str "EightDotThree._pad_8dot3_name" 653), (.str "/claim/cut.py" 654), (.int 196 0), (.int 1 0), (.int 0 0), (.int 0 0), (.int 3 0), (.ref 283), (.bool true), (.int 181 0), (.ref 284), .none, (.ref 285), (.ref 286), (.ref 287), (.int 658 0), (.int 196 0), (.str "/claim/cut.py" 659)]), #[]⟩) ::
  (nat_lit 289, ⟨.type "function", none, (.func (fnD (st := pk [15, 13]) rfl "EightDotThree._pad_8dot3_name" 3 [] .none .none .none (.str "pyfatfs.EightDotThree" 490) (some 292) (.ref 288) .none 0)), #[]⟩) ::
  (nat_lit 290, ⟨.type "dict", none, (.dict #[⟨PyData.keyHash P "__module__", .str "__module__" 661, .str "pyfatfs.EightDotThree" 490⟩, ⟨PyData.keyHash P "__name__", .str "__name__" 664, .str "_pad_8dot3_name" 663⟩, ⟨PyData.keyHash P "__qualname__", .str "__qualname__" 667, .str "EightDotThree._pad_8dot3_name" 666⟩, ⟨PyData.keyHash P "__doc__", .str "__doc__" 669, .none⟩, ⟨PyData.keyHash P "__annotations__", .str "__annotations__" 671, .ref 292⟩] 5), #[]⟩) ::
  (nat_lit 291, ⟨.type "staticmethod", (some 290), (.fields #[(.ref 289), (.bool false)]), #[]⟩) ::
  (nat_lit 292, ⟨.type "dict", none, (.dict #[] 0), #[]⟩) ::
  (nat_lit 293, ⟨.type "tuple", none, (.seq #[] 0), #[]⟩) ::
  (nat_lit 295, ⟨.type "tuple", none, (.seq #[(.str "dir_name" 676), (.str "parent_dir_entry" 677)] 0), #[]⟩) ::
  (nat_lit 296, ⟨.type "tuple", none, (.seq #[] 0), #[]⟩) ::
  (nat_lit 298, ⟨.type "code", none, (.fields #[(.str "make_8dot3_name" 673), (.str "EightDotThree.make_8dot3_name" 674), (.str "/claim/cut.py" 675), (.int 203 0), (.int 2 0), (.int 0 0), (.int 0 0), (.int 3 0), (.ref 293), (.bool true), (.int 181 0), (.ref 294), .none, (.ref 295), (.ref 296), (.ref 297), (.int 678 0), (.int 203 0), (.str "/claim/cut.py" 679)]), #[]⟩) ::
  (nat_lit 299, ⟨.type "function", none, (.func (fnQ (pk [15, 14]) "EightDotThree.make_8dot3_name" 3 [] .none .none .none (.str "pyfatfs.EightDotThree" 490) (some 302) (.ref 298) .none 0)), #[]⟩) ::
  (nat_lit 300, ⟨.type "dict", none, (.dict #[⟨PyData.keyHash P "__module__", .str "__module__" 681, .str "pyfatfs.EightDotThree" 490⟩, ⟨PyData.keyHash P "__name__", .str "__name__" 684, .str "make_8dot3_name" 683⟩, ⟨PyData.keyHash P "__qualname__", .str "__qualname__" 687, .str "EightDotThree.make_8dot3_name" 686⟩, ⟨PyData.keyHash P "__doc__", .str "__doc__" 689, .none⟩, ⟨PyData.keyHash P "__annotations__", .str "__annotations__" 691, .ref 302⟩] 5), #[]⟩) ::
  (nat_lit 301, ⟨.type "staticmethod", (some 300), (.fields #[(.ref 299), (.bool false)]), #[]⟩) ::
  (nat_lit 302, ⟨.type "dict", none, (.dict #[] 0), #[]⟩) ::
  (nat_lit 303, ⟨.type "tuple", none, (.seq #[(.str "encoding" 693), (.str "initialized" 694), (.str "name" 695)] 0), #[]⟩) ::
  (nat_lit 304, ⟨.type "dict", none, (.dict #[⟨PyData.keyHash P "__module__", .str "__module__" 499, .str "pyfatfs.EightDotThree" 490⟩, ⟨PyData.keyHash P "__firstlineno__", .str "__firstlineno__" 503, .int 119 502⟩, ⟨PyData.keyHash P "SFN_LENGTH", .str "SFN_LENGTH" 505, .int 11 504⟩, ⟨PyData.keyHash P "INVALID_CHARACTERS", .str "INVALID_CHARACTERS" 522, .ref 194⟩, ⟨PyData.keyHash P "__init__", .str "__init__" 530, .ref 202⟩, ⟨PyData.keyHash P "as_text", .str "as_text" 541, .ref 209⟩, ⟨PyData.keyHash P "as_bytes", .str "as_bytes" 548, .ref 216⟩, ⟨PyData.keyHash P "get_unpadded_filename", .str "get_unpadded_filename" 555, .ref 223⟩, ⟨PyData.keyHash P "_raise_8dot3_nonconformant", .str "_raise_8dot3_nonconformant" 574, .ref 232⟩, ⟨PyData.keyHash P "_set_name", .str "_set_name" 582, .ref 240⟩, ⟨PyData.keyHash P "set_byte_name", .str "set_byte_name" 590, .ref 247⟩, ⟨PyData.keyHash P "set_str_name", .str "set_str_name" 598, .ref 254⟩, ⟨PyData.keyHash P "checksum", .str "checksum" 607, .ref 261⟩, ⟨PyData.keyHash P "_check_characters", .str "_check_characters" 628, .ref 270⟩, ⟨PyData.keyHash P "is_8dot3_conform", .str "is_8dot3_conform" 651, .ref 281⟩, ⟨PyData.keyHash P "_pad_8dot3_name", .str "_pad_8dot3_name" 672, .ref 291⟩, ⟨PyData.keyHash P "make_8dot3_name", .str "make_8dot3_name" 692, .ref 301⟩, ⟨PyData.keyHash P "__static_attributes__", .str "__static_attributes__" 696, .ref 303⟩, ⟨PyData.keyHash P "__dict__", .str "__dict__" 698, .ref 306⟩, ⟨PyData.keyHash P "__weakref__", .str "__weakref__" 700, .ref 307⟩, ⟨PyData.keyHash P "__doc__", .str "__doc__" 701, .none⟩] 4), #[]⟩) ::
  (nat_lit 305, ⟨.type "type", none, (.cls ⟨"EightDotThree", [.type "object"], [.ref 305, .type "object"], 304, "EightDotThree", true, [], [], false, none, false⟩), #[none, none, (some (.str "EightDotThree" 492)), (some (.str "EightDotThree" 500)), (some (.builtin "object.__new__")), (some (.bool true))]⟩) ::
  (nat_lit 306, ⟨.type "getset_descriptor", none, (.fields #[(.str "__dict__" 697), (.ref 305), (.builtin "function.__dict__"), (.builtin "function.__dict__#set")]), #[]⟩) ::
  (nat_lit 307, ⟨.type "getset_descriptor", none, (.fields #[(.str "__weakref__" 699), (.ref 305), (.builtin "ExceptionGroup.__weakref__"), .none]), #[]⟩) ::
  (nat_lit 317, ⟨.type "list", none, (.seq #[(.str "DIR_Name" 742), (.str "DIR_Attr" 743), (.str "DIR_NTRes" 744), (.str "DIR_CrtTimeTenth" 745), (.str "DIR_CrtTime" 746), (.str "DIR_CrtDate" 747), (.str "DIR_LstAccessDate" 748), (.str "DIR_FstClusHI" 749), (.str "DIR_WrtTime" 750), (.str "DIR_WrtDate" 751), (.str "DIR_FstClusLO" 752), (.str "DIR_FileSize" 753)] 0), #[]⟩) ::
  (nat_lit 318, ⟨.type "tuple", none, (.seq #[(.str "latin-1" 453), .none, (.bool false), .none] 0), #[]⟩) ::
  (nat_lit 319, ⟨.type "tuple", none, (.seq #[] 0), #[]⟩) ::
  (nat_lit 321, ⟨.type "tuple", none, (.seq #[(.str "self" 758), (.str "DIR_Name" 759), (.str "DIR_Attr" 760), (.str "DIR_NTRes" 761), (.str "DIR_CrtTimeTenth" 762), (.str "DIR_CrtTime" 763), (.str "DIR_CrtDate" 764), (.str "DIR_LstAccessDate" 765), (.str "DIR_FstClusHI" 766), (.str "DIR_WrtTime" 767), (.str "DIR_WrtDate" 768), (.str "DIR_FstClusLO" 769), (.str "DIR_FileSize" 770), (.str "encoding" 771), (.str "fs" 772), (.str "lazy_load" 773), (.str "lfn_entry" 774)] 0), #[]⟩) ::
  (nat_lit 322, ⟨.type "tuple", none, (.seq #[] 0), #[]⟩) ::
  (nat_lit 324, ⟨.type "code", none, (.fields #[(.str "__init__" 755), (.str "FATDirectoryEntry.__init__" 756), (.str "/claim/cut.py" 757), (.int 222 0), (.int 17 0), (.int 0 0), (.int 0 0), (.int 3 0), (.ref 319), (.bool true), (.int 181 0), (.ref 320), .none, (.ref 321), (.ref 322), (.ref 323), (.int 775 0), (.int 222 0), (.str "/claim/cut.py" 776)]), #[]⟩) ::
  (nat_lit 325, ⟨.type "function", none, (.func (fnD (st := pk [17, 13]) rfl "FATDirectoryEntry.__init__" 3 [] (.ref 318) .none .none (.str "pyfatfs.FATDirectoryEntry" 704) none (.ref 324) .none 0)), #[]⟩) ::
  (nat_lit 326, ⟨.type "tuple", none, (.seq #[] 0), #[]⟩) ::
  (nat_lit 328, ⟨.type "tuple", none, (.seq #[(.str "self" 781), (.str "size" 782)] 0), #[]⟩) ::
  (nat_lit 329, ⟨.type "tuple", none, (.seq #[] 0), #[]⟩) ::
  (nat_lit 331, ⟨.type "code", none, (.fields #[(.str "set_size" 778), (.str "FATDirectoryEntry.set_size" 779), (.str "/claim/cut.py" 780), (.int 246 0), (.int 2 0), (.int 0 0), (.int 0 0), (.int 3 0), (.ref 326), (.bool true), (.int 181 0), (.ref 327), .none, (.ref 328), (.ref 329), (.ref 330), (.int 783 0), (.int 246 0), (.str "/claim/cut.py" 784)]), #[]⟩) ::
  (nat_lit 332, ⟨.type "function", none, (.func (fnD (st := pk [17, 14]) rfl "FATDirectoryEntry.set_size" 3 [] .none .none .none (.str "pyfatfs.FATDirectoryEntry" 704) none (.ref 331) .none 0)), #[]⟩) ::
  (nat_lit 333, ⟨.type "tuple", none, (.seq #[(.int 0 786), (.int 0 787), (.int 0 788), (.int 0 789)] 0), #[]⟩) ::
  (nat_lit 334, ⟨.type "tuple", none, (.seq #[] 0), #[]⟩) ::
  (nat_lit 336, ⟨.type "tuple", none, (.seq #[(.str "name" 793), (.str "tz" 794), (.str "encoding" 795), (.str "attr" 796), (.str "ntres" 797), (.str "cluster" 798), (.str "filesize" 799), (.str "dt" 800), (.str "dentry" 801)] 0), #[]⟩) ::
  (nat_lit 337, ⟨.type "tuple", none, (.seq #[] 0), #[]⟩) ::
  (nat_lit 339, ⟨.type "code", none, (.fields #[(.str "new" 790), (.str "FATDirectoryEntry.new" 791), (.str "/claim/cut.py" 792), (.int 251 0), (.int 7 0), (.int 0 0), (.int 0 0), (.int 3 0), (.ref 334), (.bool true), (.int 181 0), (.ref 335), .none, (.ref 336), (.ref 337), (.ref 338), (.int 802 0), (.int 251 0), (.str "/claim/cut.py" 803)]), #[]⟩) ::
  (nat_lit 340, ⟨.type "function", none, (.func (fnD (st := pk [17, 15]) rfl "FATDirectoryEntry.new" 3 [] (.ref 333) .none .none (.str "pyfatfs.FATDirectoryEntry" 704) (some 343) (.ref 339) .none 0)), #[]⟩) ::
  (nat_lit 341, ⟨.type "dict", none, (.dict #[⟨PyData.keyHash P "__module__", .str "__module__" 805, .str "pyfatfs.FATDirectoryEntry" 704⟩, ⟨PyData.keyHash P "__name__", .str "__name__" 808, .str "new" 807⟩, ⟨PyData.keyHash P "__qualname__", .str "__qualname__" 811, .str "FATDirectoryEntry.new" 810⟩, ⟨PyData.keyHash P "__doc__", .str "__doc__" 813, .none⟩, ⟨PyData.keyHash P "__annotations__", .str "__annotations__" 815, .ref 343⟩] 5), #[]⟩) ::
  (nat_lit 342, ⟨.type "staticmethod", (some 341), (.fields #[(.ref 340), (.bool false)]), #[]⟩) ::
  (nat_lit 343, ⟨.type "dict", none, (.dict #[] 0), #[]⟩) ::
  (nat_lit 344, ⟨.type "tuple", none, (.seq #[] 0), #[]⟩) ::
  (nat_lit 346, ⟨.type "tuple", none, (.seq #[(.str "self" 820)] 0), #[]⟩) ::
  (nat_lit 347, ⟨.type "tuple", none, (.seq #[] 0), #[]⟩) ::
  (nat_lit 349, ⟨.type "code", none, (.fields #[(.str "get_ctime" 817), (.str "FATDirectoryEntry.get_ctime" 818), (.str "/claim/cut.py" 819), (.int 258 0), (.int 1 0), (.int 0 0), (.int 0 0), (.int 3 0), (.ref 344), (.bool true), (.int 181 0), (.ref 345), .none, (.ref 346), (.ref 347), (.ref 348), (.int 821 0), (.int 258 0), (.str "/claim/cut.py" 822)]), #[]⟩) ::
  (nat_lit 350, ⟨.type "function", none, (.func (fnD (st := pk [17, 16]) rfl "FATDirectoryEntry.get_ctime" 3 [] .none .none .none (.str "pyfatfs.FATDirectoryEntry" 704) none (.ref 349) .none 0)), #[]⟩) ::
  (nat_lit 351, ⟨.type "tuple", none, (.seq #[] 0), #[]⟩) ::
  (nat_lit 353, ⟨.type "tuple", none, (.seq #[(.str "self" 827)] 0), #[]⟩) ::
  (nat_lit 354, ⟨.type "tuple", none, (.seq #[] 0), #[]⟩) ::
  (nat_lit 356, ⟨.type "code", none, (.fields #[(.str "get_mtime" 824), (.str "FATDirectoryEntry.get_mtime" 825), (.str "/claim/cut.py" 826), (.int 261 0), (.int 1 0), (.int 0 0), (.int 0 0), (.int 3 0), (.ref 351), (.bool true), (.int 181 0), (.ref 352), .none, (.ref 353), (.ref 354), (.ref 355), (.int 828 0), (.int 261 0), (.str "/claim/cut.py" 829)]), #[]⟩) ::
  (nat_lit 357, ⟨.type "function", none, (.func (fnD (st := pk [17, 17]) rfl "FATDirectoryEntry.get_mtime" 3 [] .none .none .none (.str "pyfatfs.FATDirectoryEntry" 704) none (.ref 356) .none 0)), #[]⟩) ::
  (nat_lit 358, ⟨.type "tuple", none, (.seq #[] 0), #[]⟩) ::
  (nat_lit 360, ⟨.type "tuple", none, (.seq #[(.str "self" 834)] 0), #[]⟩) ::
  (nat_lit 361, ⟨.type "tuple", none, (.seq #[] 0), #[]⟩) ::
  (nat_lit 363, ⟨.type "code", none, (.fields #[(.str "get_atime" 831), (.str "FATDirectoryEntry.get_atime" 832), (.str "/claim/cut.py" 833), (.int 264 0), (.int 1 0), (.int 0 0), (.int 0 0), (.int 3 0), (.ref 358), (.bool true), (.int 181 0), (.ref 359), .none, (.ref 360), (.ref 361), (.ref 362), (.int 835 0), (.int 264 0), (.str "/claim/cut.py" 836)]), #[]⟩) ::
  (nat_lit 364, ⟨.type "function", none, (.func (fnD (st := pk [17, 18]) rfl "FATDirectoryEntry.get_atime" 3 [] .none .none .none (.str "pyfatfs.FATDirectoryEntry" 704) none (.ref 363) .none 0)), #[]⟩) ::
  (nat_lit 365, ⟨.type "tuple", none, (.seq #[] 0), #[]⟩) ::
  (nat_lit 367, ⟨.type "tuple", none, (.seq #[(.str "dt" 841), (.str "tm" 842)] 0), #[]⟩) ::
  (nat_lit 368, ⟨.type "tuple", none, (.seq #[] 0), #[]⟩) ::
  (nat_lit 370, ⟨.type "code", none, (.fields #[(.str "_combine_dosdatetime" 838), (.str "FATDirectoryEntry._combine_dosdatetime" 839), (.str "/claim/cut.py" 840), (.int 267 0), (.int 2 0), (.int 0 0), (.int 0 0), (.int 3 0), (.ref 365), (.bool true), (.int 181 0), (.ref 366), .none, (.ref 367), (.ref 368), (.ref 369), (.int 843 0), (.int 267 0), (.str "/claim/cut.py" 844)]), #[]⟩) ::
  (nat_lit 371, ⟨.type "function", none, (.func (fnD (st := pk [17, 19]) rfl "FATDirectoryEntry._combine_dosdatetime" 3 [] .none .none .none (.str "pyfatfs.FATDirectoryEntry" 704) (some 374) (.ref 370) .none 0)), #[]⟩) ::
  (nat_lit 372, ⟨.type "dict", none, (.dict #[⟨PyData.keyHash P "__module__", .str "__module__" 846, .str "pyfatfs.FATDirectoryEntry" 704⟩, ⟨PyData.keyHash P "__name__", .str "__name__" 849, .str "_combine_dosdatetime" 848⟩, ⟨PyData.keyHash P "__qualname__", .str "__qualname__" 852, .str "FATDirectoryEntry._combine_dosdatetime" 851⟩, ⟨PyData.keyHash P "__doc__", .str "__doc__" 854, .none⟩, ⟨PyData.keyHash P "__annotations__", .str "__annotations__" 856, .ref 374⟩] 5), #[]⟩) ::
  (nat_lit 373, ⟨.type "staticmethod", (some 372), (.fields #[(.ref 371), (.bool false)]), #[]⟩) ::
  (nat_lit 374, ⟨.type "dict", none, (.dict #[] 0), #[]⟩) ::
  (nat_lit 375, ⟨.type "tuple", none, (.seq #[] 0), #[]⟩) ::
  (nat_lit 377, ⟨.type "tuple", none, (.seq #[(.str "self" 861)] 0), #[]⟩) ::
  (nat_lit 378, ⟨.type "tuple", none, (.seq #[] 0), #[]⟩) ::
  (nat_lit 380, ⟨.type "code", none, (.fields #[(.str "get_checksum" 858), (.str "FATDirectoryEntry.get_checksum" 859), (.str "/claim/cut.py" 860), (.int 272 0), (.int 1 0), (.int 0 0), (.int 0 0), (.int 3 0), (.ref 375), (.bool true), (.int 181 0), (.ref 376), .none, (.ref 377), (.ref 378), (.ref 379), (.int 862 0), (.int 272 0), (.str "/claim/cut.py" 863)]), #[]⟩) ::
  (nat_lit 381, ⟨.type "function", none, (.func (fnQ (pk [17, 20]) "FATDirectoryEntry.get_checksum" 3 [] .none .none .none (.str "pyfatfs.FATDirectoryEntry" 704) none (.ref 380) .none 0)), #[]⟩) ::
  (nat_lit 382, ⟨.type "tuple", none, (.seq #[] 0), #[]⟩) ::
  (nat_lit 384, ⟨.type "tuple", none, (.seq #[(.str "self" 868), (.str "lfn_entry" 869), (.str "chksum" 870), (.str "entry" 871), (.str "entry_chksum" 872)] 0), #[]⟩) ::
  (nat_lit 385, ⟨.type "tuple", none, (.seq #[] 0), #[]⟩) ::
  (nat_lit 387, ⟨.type "code", none, (.fields #[(.str "set_lfn_entry" 865), (.str "FATDirectoryEntry.set_lfn_entry" 866), (.str "/claim/cut.py" 867), (.int 275 0), (.int 2 0), (.int 0 0), (.int 0 0), (.int 3 0), (.ref 382), (.bool true), (.int 181 0), (.ref 383), .none, (.ref 384), (.ref 385), (.ref 386), (.int 873 0), (.int 275 0), (.str "/claim/cut.py" 874)]), #[]⟩) ::
  (nat_lit 388, ⟨.type "function", none, (.func (fnD (st := pk [17, 21]) rfl "FATDirectoryEntry.set_lfn_entry" 3 [] .none .none .none (.str "pyfatfs.FATDirectoryEntry" 704) none (.ref 387) .none 0)), #[]⟩) ::
  (nat_lit 389, ⟨.type "tuple", none, (.seq #[] 0), #[]⟩) ::
  (nat_lit 391, ⟨.type "tuple", none, (.seq #[(.str "self" 879)] 0), #[]⟩) ::
  (nat_lit 392, ⟨.type "tuple", none, (.seq #[] 0), #[]⟩) ::
  (nat_lit 394, ⟨.type "code", none, (.fields #[(.str "get_entry_size" 876), (.str "FATDirectoryEntry.get_entry_size" 877), (.str "/claim/cut.py" 878), (.int 285 0), (.int 1 0), (.int 0 0), (.int 0 0), (.int 3 0), (.ref 389), (.bool true), (.int 181 0), (.ref 390), .none, (.ref 391), (.ref 392), (.ref 393), (.int 880 0), (.int 285 0), (.str "/claim/cut.py" 881)]), #[]⟩) ::
  (nat_lit 395, ⟨.type "function", none, (.func (fnQ (pk [17, 22]) "FATDirectoryEntry.get_entry_size" 3 [] .none .none .none (.str "pyfatfs.FATDirectoryEntry" 704) none (.ref 394) .none 0)), #[]⟩) ::
  (nat_lit 396, ⟨.type "tuple", none, (.seq #[] 0), #[]⟩) ::
  (nat_lit 398, ⟨.type "tuple", none, (.seq #[(.str "self" 886)] 0), #[]⟩) ::
  (nat_lit 399, ⟨.type "tuple", none, (.seq #[] 0), #[]⟩) ::
  (nat_lit 401, ⟨.type "code", none, (.fields #[(.str "get_cluster" 883), (.str "FATDirectoryEntry.get_cluster" 884), (.str "/claim/cut.py" 885), (.int 288 0), (.int 1 0), (.int 0 0), (.int 0 0), (.int 3 0), (.ref 396), (.bool true), (.int 181 0), (.ref 397), .none, (.ref 398), (.ref 399), (.ref 400), (.int 887 0), (.int 288 0), (.str "/claim/cut.py" 888)]), #[]⟩) ::
  (nat_lit 402, ⟨.type "function", none, (.func (fnQ (pk [17, 23]) "FATDirectoryEntry.get_cluster" 3 [] .none .none .none (.str "pyfatfs.FATDirectoryEntry" 704) none (.ref 401) .none 0)), #[]⟩) ::
  (nat_lit 403, ⟨.type "tuple", none, (.seq #[] 0), #[]⟩) ::
  (nat_lit 405, ⟨.type "tuple", none, (.seq #[(.str "self" 893), (.str "first_cluster" 894)] 0), #[]⟩) ::
  (nat_lit 406, ⟨.type "tuple", none, (.seq #[] 0), #[]⟩) ::
  (nat_lit 408, ⟨.type "code", none, (.fields #[(.str "set_cluster" 890), (.str "FATDirectoryEntry.set_cluster" 891), (.str "/claim/cut.py" 892), (.int 291 0), (.int 2 0), (.int 0 0), (.int 0 0), (.int 3 0), (.ref 403), (.bool true), (.int 181 0), (.ref 404), .none, (.ref 405), (.ref 406), (.ref 407), (.int 895 0), (.int 291 0), (.str "/claim/cut.py" 896)]), #[]⟩) ::
  (nat_lit 409, ⟨.type "function", none, (.func (fnD (st := pk [17, 24]) rfl "FATDirectoryEntry.set_cluster" 3 [] .none .none .none (.str "pyfatfs.FATDirectoryEntry" 704) none (.ref 408) .none 0)), #[]⟩) ::
  (nat_lit 410, ⟨.type "tuple", none, (.seq #[] 0), #[]⟩) ::
  (nat_lit 412, ⟨.type "tuple", none, (.seq #[(.str "self" 901)] 0), #[]⟩) ::
  (nat_lit 413, ⟨.type "tuple", none, (.seq #[] 0), #[]⟩) ::
  (nat_lit 415, ⟨.type "code", none, (.fields #[(.str "as_bytes" 898), (.str "FATDirectoryEntry.as_bytes" 899), (.str "/claim/cut.py" 900), (.int 295 0), (.int 1 0), (.int 0 0), (.int 0 0), (.int 3 0), (.ref 410), (.bool true), (.int 181 0), (.ref 411), .none, (.ref 412), (.ref 413), (.ref 414), (.int 902 0), (.int 295 0), (.str "/claim/cut.py" 903)]), #[]⟩) ::
  (nat_lit 416, ⟨.type "function", none, (.func (fnQ (pk [17, 25]) "FATDirectoryEntry.as_bytes" 3 [] .none .none .none (.str "pyfatfs.FATDirectoryEntry" 704) none (.ref 415) .none 0)), #[]⟩) ::
  (nat_lit 417, ⟨.type "tuple", none, (.seq #[] 0), #[]⟩) ::
  (nat_lit 419, ⟨.type "tuple", none, (.seq #[(.str "self" 908), (.str "cls" 909)] 0), #[]⟩) ::
  (nat_lit 420, ⟨.type "tuple", none, (.seq #[] 0), #[]⟩) ::
  (nat_lit 422, ⟨.type "code", none, (.fields #[(.str "_add_parent" 905), (.str "FATDirectoryEntry._add_parent" 906), (.str "/claim/cut.py" 907), (.int 298 0), (.int 2 0), (.int 0 0), (.int 0 0), (.int 3 0), (.ref 417), (.bool true), (.int 181 0), (.ref 418), .none, (.ref 419), (.ref 420), (.ref 421), (.int 910 0), (.int 298 0), (.str "/claim/cut.py" 911)]), #[]⟩) ::
  (nat_lit 423, ⟨.type "function", none, (.func (fnQ (pk [17, 26]) "FATDirectoryEntry._add_parent" 3 [] .none .none .none (.str "pyfatfs.FATDirectoryEntry" 704) none (.ref 422) .none 0)), #[]⟩) ::
  (nat_lit 424, ⟨.type "tuple", none, (.seq #[] 0), #[]⟩) ::
  (nat_lit 426, ⟨.type "tuple", none, (.seq #[(.str "self" 916), (.str "sd" 917)] 0), #[]⟩) ::
  (nat_lit 427, ⟨.type "tuple", none, (.seq #[] 0), #[]⟩) ::
  (nat_lit 429, ⟨.type "code", none, (.fields #[(.str "_get_parent_dir" 913), (.str "FATDirectoryEntry._get_parent_dir" 914), (.str "/claim/cut.py" 915), (.int 305 0), (.int 2 0), (.int 0 0), (.int 0 0), (.int 3 0), (.ref 424), (.bool true), (.int 181 0), (.ref 425), .none, (.ref 426), (.ref 427), (.ref 428), (.int 918 0), (.int 305 0), (.str "/claim/cut.py" 919)]), #[]⟩) ::
  (nat_lit 430, ⟨.type "function", none, (.func (fnQ (pk [17, 27]) "FATDirectoryEntry._get_parent_dir" 3 [] .none .none .none (.str "pyfatfs.FATDirectoryEntry" 704) none (.ref 429) .none 0)), #[]⟩) ::
  (nat_lit 431, ⟨.type "tuple", none, (.seq #[] 0), #[]⟩) ::
  (nat_lit 433, ⟨.type "tuple", none, (.seq #[(.str "self" 924)] 0), #[]⟩) ::
  (nat_lit 434, ⟨.type "tuple", none, (.seq #[] 0), #[]⟩) ::
  (nat_lit 436, ⟨.type "code", none, (.fields #[(.str "get_full_path" 921), (.str "FATDirectoryEntry.get_full_path" 922), (.str "/claim/cut.py" 923), (.int 308 0), (.int 1 0), (.int 0 0), (.int 0 0), (.int 3 0), (.ref 431), (.bool true), (.int 181 0), (.ref 432), .none, (.ref 433), (.ref 434), (.ref 435), (.int 925 0), (.int 308 0), (.str "/claim/cut.py" 926)]), #[]⟩) ::
  (nat_lit 437, ⟨.type "function", none, (.func (fnQ (pk [17, 28]) "FATDirectoryEntry.get_full_path" 3 [] .none .none .none (.str "pyfatfs.FATDirectoryEntry" 704) none (.ref 436) .none 0)), #[]⟩) ::
  (nat_lit 438, ⟨.type "tuple", none, (.seq #[] 0), #[]⟩) ::
  (nat_lit 440, ⟨.type "tuple", none, (.seq #[(.str "self" 931)] 0), #[]⟩) ::
  (nat_lit 441, ⟨.type "tuple", none, (.seq #[] 0), #[]⟩) ::
  (nat_lit 443, ⟨.type "code", none, (.fields #[(.str "get_parent_dir" 928), (.str "FATDirectoryEntry.get_parent_dir" 929), (.str "/claim/cut.py" 930), (.int 311 0), (.int 1 0), (.int 0 0), (.int 0 0), (.int 3 0), (.ref 438), (.bool true), (.int 181 0), (.ref 439), .none, (.ref 440), (.ref 441), (.ref 442), (.int 932 0), (.int 311 0), (.str "/claim/cut.py" 933)]), #[]⟩) ::
  (nat_lit 444, ⟨.type "function", none, (.func (fnQ (pk [17, 29]) "FATDirectoryEntry.get_parent_dir" 3 [] .none .none .none (.str "pyfatfs.FATDirectoryEntry" 704) none (.ref 443) .none 0)), #[]⟩) ::
  (nat_lit 445, ⟨.type "tuple", none, (.seq #[] 0), #[]⟩) ::
  (nat_lit 447, ⟨.type "tuple", none, (.seq #[(.str "self" 938)] 0), #[]⟩) ::
  (nat_lit 448, ⟨.type "tuple", none, (.seq #[] 0), #[]⟩) ::
  (nat_lit 450, ⟨.type "code", none, (.fields #[(.str "is_special" 935), (.str "FATDirectoryEntry.is_special" 936), (.str "/claim/cut.py" 937), (.int 314 0), (.int 1 0), (.int 0 0), (.int 0 0), (.int 3 0), (.ref 445), (.bool true), (.int 181 0), (.ref 446), .none, (.ref 447), (.ref 448), (.ref 449), (.int 939 0), (.int 314 0), (.str "/claim/cut.py" 940)]), #[]⟩) ::
  (nat_lit 451, ⟨.type "function", none, (.func (fnQ (pk [17, 30]) "FATDirectoryEntry.is_special" 3 [] .none .none .none (.str "pyfatfs.FATDirectoryEntry" 704) none (.ref 450) .none 0)), #[]⟩) ::
  (nat_lit 452, ⟨.type "tuple", none, (.seq #[] 0), #[]⟩) ::
  (nat_lit 454, ⟨.type "tuple", none, (.seq #[(.str "self" 945)] 0), #[]⟩) ::
  (nat_lit 455, ⟨.type "tuple", none, (.seq #[] 0), #[]⟩) ::
  (nat_lit 457, ⟨.type "code", none, (.fields #[(.str "is_read_only" 942), (.str "FATDirectoryEntry.is_read_only" 943), (.str "/claim/cut.py" 944), (.int 317 0), (.int 1 0), (.int 0 0), (.int 0 0), (.int 3 0), (.ref 452), (.bool true), (.int 181 0), (.ref 453), .none, (.ref 454), (.ref 455), (.ref 456), (.int 946 0), (.int 317 0), (.str "/claim/cut.py" 947)]), #[]⟩) ::
  (nat_lit 458, ⟨.type "function", none, (.func (fnQ (pk [17, 31]) "FATDirectoryEntry.is_read_only" 3 [] .none .none .none (.str "pyfatfs.FATDirectoryEntry" 704) none (.ref 457) .none 0)), #[]⟩) ::
  (nat_lit 459, ⟨.type "tuple", none, (.seq #[] 0), #[]⟩) ::
  (nat_lit 461, ⟨.type "tuple", none, (.seq #[(.str "self" 952)] 0), #[]⟩) ::
  (nat_lit 462, ⟨.type "tuple", none, (.seq #[] 0), #[]⟩) ::
  (nat_lit 464, ⟨.type "code", none, (.fields #[(.str "is_hidden" 949), (.str "FATDirectoryEntry.is_hidden" 950), (.str "/claim/cut.py" 951), (.int 320 0), (.int 1 0), (.int 0 0), (.int 0 0), (.int 3 0), (.ref 459), (.bool true), (.int 181 0), (.ref 460), .none, (.ref 461), (.ref 462), (.ref 463), (.int 953 0), (.int 320 0), (.str "/claim/cut.py" 954)]), #[]⟩) ::
  (nat_lit 465, ⟨.type "function", none, (.func (fnQ (pk [17, 32]) "FATDirectoryEntry.is_hidden" 3 [] .none .none .none (.str "pyfatfs.FATDirectoryEntry" 704) none (.ref 464) .none 0)), #[]⟩) ::
  (nat_lit 466, ⟨.type "tuple", none, (.seq #[] 0), #[]⟩) ::
  (nat_lit 468, ⟨.type "tuple", none, (.seq #[(.str "self" 959)] 0), #[]⟩) ::
  (nat_lit 469, ⟨.type "tuple", none, (.seq #[] 0), #[]⟩) ::
  (nat_lit 471, ⟨.type "code", none, (.fields #[(.str "is_system" 956), (.str "FATDirectoryEntry.is_system" 957), (.str "/claim/cut.py" 958), (.int 323 0), (.int 1 0), (.int 0 0), (.int 0 0), (.int 3 0), (.ref 466), (.bool true), (.int 181 0), (.ref 467), .none, (.ref 468), (.ref 469), (.ref 470), (.int 960 0), (.int 323 0), (.str "/claim/cut.py" 961)]), #[]⟩) ::
  (nat_lit 472, ⟨.type "function", none, (.func (fnQ (pk [17, 33]) "FATDirectoryEntry.is_system" 3 [] .none .none .none (.str "pyfatfs.FATDirectoryEntry" 704) none (.ref 471) .none 0)), #[]⟩) ::
  (nat_lit 473, ⟨.type "tuple", none, (.seq #[] 0), #[]⟩) ::
  (nat_lit 475, ⟨.type "tuple", none, (.seq #[(.str "self" 966)] 0), #[]⟩) ::
  (nat_lit 476, ⟨.type "tuple", none, (.seq #[] 0), #[]⟩) ::
  (nat_lit 478, ⟨.type "code", none, (.fields #[(.str "is_volume_id" 963), (.str "FATDirectoryEntry.is_volume_id" 964), (.str "/claim/cut.py" 965), (.int 326 0), (.int 1 0), (.int 0 0), (.int 0 0), (.int 3 0), (.ref 473), (.bool true), (.int 181 0), (.ref 474), .none, (.ref 475), (.ref 476), (.ref 477), (.int 967 0), (.int 326 0), (.str "/claim/cut.py" 968)]), #[]⟩) ::
  (nat_lit 479, ⟨.type "function", none, (.func (fnQ (pk [17, 34]) "FATDirectoryEntry.is_volume_id" 3 [] .none .none .none (.str "pyfatfs.FATDirectoryEntry" 704) none (.ref 478) .none 0)), #[]⟩) ::
  (nat_lit 480, ⟨.type "tuple", none, (.seq #[] 0), #[]⟩) ::
  (nat_lit 482, ⟨.type "tuple", none, (.seq #[(.str "self" 973)] 0), #[]⟩) ::
  (nat_lit 483, ⟨.type "tuple", none, (.seq #[] 0), #[]⟩) ::
  (nat_lit 485, ⟨.type "code", none, (.fields #[(.str "_verify_is_directory" 970), (.str "FATDirectoryEntry._verify_is_directory" 971), (.str "/claim/cut.py" 972), (.int 329 0), (.int 1 0), (.int 0 0), (.int 0 0), (.int 3 0), (.ref 480), (.bool true), (.int 181 0), (.ref 481), .none, (.ref 482), (.ref 483), (.ref 484), (.int 974 0), (.int 329 0), (.str "/claim/cut.py" 975)]), #[]⟩) ::
  (nat_lit 486, ⟨.type "function", none, (.func (fnQ (pk [17, 35]) "FATDirectoryEntry._verify_is_directory" 3 [] .none .none .none (.str "pyfatfs.FATDirectoryEntry" 704) none (.ref 485) .none 0)), #[]⟩) ::
  (nat_lit 487, ⟨.type "tuple", none, (.seq #[] 0), #[]⟩) ::
  (nat_lit 489, ⟨.type "tuple", none, (.seq #[(.str "self" 980)] 0), #[]⟩) ::
  (nat_lit 490, ⟨.type "tuple", none, (.seq #[] 0), #[]⟩) ::
  (nat_lit 492, ⟨.type "code", none, (.fields #[(.str "is_directory" 977), (.str "FATDirectoryEntry.is_directory" 978), (.str "/claim/cut.py" 979), (.int 333 0), (.int 1 0), (.int 0 0), (.int 0 0), (.int 3 0), (.ref 487), (.bool true), (.int 181 0), (.ref 488), .none, (.ref 489), (.ref 490), (.ref 491), (.int 981 0), (.int 333 0), (.str "/claim/cut.py" 982)]), #[]⟩) ::
  (nat_lit 493, ⟨.type "function", none, (.func (fnQ (pk [17, 36]) "FATDirectoryEntry.is_directory" 3 [] .none .none .none (.str "pyfatfs.FATDirectoryEntry" 704) none (.ref 492) .none 0)), #[]⟩) ::
  (nat_lit 494, ⟨.type "tuple", none, (.seq #[] 0), #[]⟩) ::
  (nat_lit 496, ⟨.type "tuple", none, (.seq #[(.str "self" 987)] 0), #[]⟩) ::
  (nat_lit 497, ⟨.type "tuple", none, (.seq #[] 0), #[]⟩) ::
  (nat_lit 499, ⟨.type "code", none, (.fields #[(.str "is_archive" 984), (.str "FATDirectoryEntry.is_archive" 985), (.str "/claim/cut.py" 986), (.int 336 0), (.int 1 0), (.int 0 0), (.int 0 0), (.int 3 0), (.ref 494), (.bool true), (.int 181 0), (.ref 495), .none, (.ref 496), (.ref 497), (.ref 498), (.int 988 0), (.int 336 0), (.str "/claim/cut.py" 989)]), #[]⟩) ::
  (nat_lit 500, ⟨.type "function", none, (.func (fnQ (pk [17, 37]) "FATDirectoryEntry.is_archive" 3 [] .none .none .none (.str "pyfatfs.FATDirectoryEntry" 704) none (.ref 499) .none 0)), #[]⟩) ::
  (nat_lit 501, ⟨.type "tuple", none, (.seq #[] 0), #[]⟩) ::
  (nat_lit 503, ⟨.type "tuple", none, (.seq #[(.str "self" 994)] 0), #[]⟩) ::
  (nat_lit 504, ⟨.type "tuple", none, (.seq #[] 0), #[]⟩) ::
  (nat_lit 506, ⟨.type "code", none, (.fields #[(.str "is_empty" 991), (.str "FATDirectoryEntry.is_empty" 992), (.str "/claim/cut.py" 993), (.int 339 0), (.int 1 0), (.int 0 0), (.int 0 0), (.int 3 0), (.ref 501), (.bool true), (.int 181 0), (.ref 502), .none, (.ref 503), (.ref 504), (.ref 505), (.int 995 0), (.int 339 0), (.str "/claim/cut.py" 996)]), #[]⟩) ::
  (nat_lit 507, ⟨.type "function", none, (.func (fnQ (pk [17, 38]) "FATDirectoryEntry.is_empty" 3 [] .none .none .none (.str "pyfatfs.FATDirectoryEntry" 704) none (.ref 506) .none 0)), #[]⟩) ::
  (nat_lit 508, ⟨.type "tuple", none, (.seq #[] 0), #[]⟩) ::
  (nat_lit 510, ⟨.type "tuple", none, (.seq #[(.str "self" 1001), (.str "clus" 1002), (.str "dir_entry" 1003)] 0), #[]⟩) ::
  (nat_lit 511, ⟨.type "tuple", none, (.seq #[] 0), #[]⟩) ::
  (nat_lit 513, ⟨.type "code", none, (.fields #[(.str "_populate_dirs" 998), (.str "FATDirectoryEntry._populate_dirs" 999), (.str "/claim/cut.py" 1000), (.int 342 0), (.int 1 0), (.int 0 0), (.int 0 0), (.int 3 0), (.ref 508), (.bool true), (.int 181 0), (.ref 509), .none, (.ref 510), (.ref 511), (.ref 512), (.int 1004 0), (.int 342 0), (.str "/claim/cut.py" 1005)]), #[]⟩) ::
  (nat_lit 514, ⟨.type "function", none, (.func (fnQ (pk [17, 39]) "FATDirectoryEntry._populate_dirs" 3 [] .none .none .none (.str "pyfatfs.FATDirectoryEntry" 704) none (.ref 513) .none 0)), #[]⟩) ::
  (nat_lit 515, ⟨.type "tuple", none, (.seq #[] 0), #[]⟩) ::
  (nat_lit 517, ⟨.type "tuple", none, (.seq #[(.str "self" 1010)] 0), #[]⟩) ::
  (nat_lit 518, ⟨.type "tuple", none, (.seq #[] 0), #[]⟩) ::
  (nat_lit 520, ⟨.type "code", none, (.fields #[(.str "_get_entries_raw" 1007), (.str "FATDirectoryEntry._get_entries_raw" 1008), (.str "/claim/cut.py" 1009), (.int 351 0), (.int 1 0), (.int 0 0), (.int 0 0), (.int 3 0), (.ref 515), (.bool true), (.int 181 0), (.ref 516), .none, (.ref 517), (.ref 518), (.ref 519), (.int 1011 0), (.int 351 0), (.str "/claim/cut.py" 1012)]), #[]⟩) ::
  (nat_lit 521, ⟨.type "function", none, (.func (fnQ (pk [17, 40]) "FATDirectoryEntry._get_entries_raw" 3 [] .none .none .none (.str "pyfatfs.FATDirectoryEntry" 704) none (.ref 520) .none 0)), #[]⟩) ::
  (nat_lit 522, ⟨.type "tuple", none, (.seq #[] 0), #[]⟩) ::
  (nat_lit 524, ⟨.type "tuple", none, (.seq #[(.str "self" 1017), (.str "dirs" 1018), (.str "files" 1019), (.str "specials" 1020), (.str "d" 1021)] 0), #[]⟩) ::
  (nat_lit 525, ⟨.type "tuple", none, (.seq #[] 0), #[]⟩) ::
  (nat_lit 527, ⟨.type "code", none, (.fields #[(.str "get_entries" 1014), (.str "FATDirectoryEntry.get_entries" 1015), (.str "/claim/cut.py" 1016), (.int 356 0), (.int 1 0), (.int 0 0), (.int 0 0), (.int 3 0), (.ref 522), (.bool true), (.int 181 0), (.ref 523), .none, (.ref 524), (.ref 525), (.ref 526), (.int 1022 0), (.int 356 0), (.str "/claim/cut.py" 1023)]), #[]⟩) ::
  (nat_lit 528, ⟨.type "function", none, (.func (fnQ (pk [17, 41]) "FATDirectoryEntry.get_entries" 3 [] .none .none .none (.str "pyfatfs.FATDirectoryEntry" 704) none (.ref 527) .none 0)), #[]⟩) ::
  (nat_lit 529, ⟨.type "tuple", none, (.seq #[] 0), #[]⟩) ::
  (nat_lit 531, ⟨.type "tuple", none, (.seq #[(.str "self" 1028), (.str "name" 1029)] 0), #[]⟩) ::
  (nat_lit 532, ⟨.type "tuple", none, (.seq #[] 0), #[]⟩) ::
  (nat_lit 534, ⟨.type "code", none, (.fields #[(.str "_search_entry" 1025), (.str "FATDirectoryEntry._search_entry" 1026), (.str "/claim/cut.py" 1027), (.int 369 0), (.int 2 0), (.int 0 0), (.int 0 0), (.int 3 0), (.ref 529), (.bool true), (.int 181 0), (.ref 530), .none, (.ref 531), (.ref 532), (.ref 533), (.int 1030 0), (.int 369 0), (.str "/claim/cut.py" 1031)]), #[]⟩) ::
  (nat_lit 535, ⟨.type "function", none, (.func (fnQ (pk [17, 42]) "FATDirectoryEntry._search_entry" 3 [] .none .none .none (.str "pyfatfs.FATDirectoryEntry" 704) none (.ref 534) .none 0)), #[]⟩) ::
  (nat_lit 536, ⟨.type "tuple", none, (.seq #[] 0), #[]⟩) ::
  (nat_lit 538, ⟨.type "tuple", none, (.seq #[(.str "self" 1036), (.str "path" 1037)] 0), #[]⟩) ::
  (nat_lit 539, ⟨.type "tuple", none, (.seq #[] 0), #[]⟩) ::
  (nat_lit 541, ⟨.type "code", none, (.fields #[(.str "get_entry" 1033), (.str "FATDirectoryEntry.get_entry" 1034), (.str "/claim/cut.py" 1035), (.int 372 0), (.int 2 0), (.int 0 0), (.int 0 0), (.int 3 0), (.ref 536), (.bool true), (.int 181 0), (.ref 537), .none, (.ref 538), (.ref 539), (.ref 540), (.int 1038 0), (.int 372 0), (.str "/claim/cut.py" 1039)]), #[]⟩) ::
  (nat_lit 542, ⟨.type "function", none, (.func (fnQ (pk [17, 43]) "FATDirectoryEntry.get_entry" 3 [] .none .none .none (.str "pyfatfs.FATDirectoryEntry" 704) none (.ref 541) .none 0)), #[]⟩) ::
  (nat_lit 543, ⟨.type "tuple", none, (.seq #[] 0), #[]⟩) ::
  (nat_lit 545, ⟨.type "tuple", none, (.seq #[(.str "self" 1044)] 0), #[]⟩) ::
  (nat_lit 546, ⟨.type "tuple", none, (.seq #[] 0), #[]⟩) ::
  (nat_lit 548, ⟨.type "code", none, (.fields #[(.str "walk" 1041), (.str "FATDirectoryEntry.walk" 1042), (.str "/claim/cut.py" 1043), (.int 375 0), (.int 1 0), (.int 0 0), (.int 0 0), (.int 3 0), (.ref 543), (.bool true), (.int 181 0), (.ref 544), .none, (.ref 545), (.ref 546), (.ref 547), (.int 1045 0), (.int 375 0), (.str "/claim/cut.py" 1046)]), #[]⟩) ::
  (nat_lit 549, ⟨.type "function", none, (.func (fnQ (pk [17, 44]) "FATDirectoryEntry.walk" 3 [] .none .none .none (.str "pyfatfs.FATDirectoryEntry" 704) none (.ref 548) .none 0)), #[]⟩) ::
  (nat_lit 550, ⟨.type "tuple", none, (.seq #[(.bool true)] 0), #[]⟩) ::
  (nat_lit 551, ⟨.type "tuple", none, (.seq #[] 0), #[]⟩) ::
  (nat_lit 553, ⟨.type "tuple", none, (.seq #[(.str "self" 1051), (.str "dir_entry" 1052), (.str "recursive" 1053)] 0), #[]⟩) ::
  (nat_lit 554, ⟨.type "tuple", none, (.seq #[] 0), #[]⟩) ::
  (nat_lit 556, ⟨.type "code", none, (.fields #[(.str "add_subdirectory" 1048), (.str "FATDirectoryEntry.add_subdirectory" 1049), (.str "/claim/cut.py" 1050), (.int 378 0), (.int 3 0), (.int 0 0), (.int 0 0), (.int 3 0), (.ref 551), (.bool true), (.int 181 0), (.ref 552), .none, (.ref 553), (.ref 554), (.ref 555), (.int 1054 0), (.int 378 0), (.str "/claim/cut.py" 1055)]), #[]⟩) ::
  (nat_lit 557, ⟨.type "function", none, (.func (fnQ (pk [17, 45]) "FATDirectoryEntry.add_subdirectory" 3 [] (.ref 550) .none .none (.str "pyfatfs.FATDirectoryEntry" 704) none (.ref 556) .none 0)), #[]⟩) ::
  (nat_lit 558, ⟨.type "tuple", none, (.seq #[] 0), #[]⟩) ::
  (nat_lit 560, ⟨.type "tuple", none, (.seq #[(.str "self" 1060)] 0), #[]⟩) ::
  (nat_lit 561, ⟨.type "tuple", none, (.seq #[] 0), #[]⟩) ::
  (nat_lit 563, ⟨.type "code", none, (.fields #[(.str "mark_empty" 1057), (.str "FATDirectoryEntry.mark_empty" 1058), (.str "/claim/cut.py" 1059), (.int 381 0), (.int 1 0), (.int 0 0), (.int 0 0), (.int 3 0), (.ref 558), (.bool true), (.int 181 0), (.ref 559), .none, (.ref 560), (.ref 561), (.ref 562), (.int 1061 0), (.int 381 0), (.str "/claim/cut.py" 1062)]), #[]⟩) ::
  (nat_lit 564, ⟨.type "function", none, (.func (fnQ (pk [17, 46]) "FATDirectoryEntry.mark_empty" 3 [] .none .none .none (.str "pyfatfs.FATDirectoryEntry" 704) none (.ref 563) .none 0)), #[]⟩) ::
  (nat_lit 565, ⟨.type "tuple", none, (.seq #[] 0), #[]⟩) ::
  (nat_lit 567, ⟨.type "tuple", none, (.seq #[(.str "self" 1067), (.str "name" 1068)] 0), #[]⟩) ::
  (nat_lit 568, ⟨.type "tuple", none, (.seq #[] 0), #[]⟩) ::
  (nat_lit 570, ⟨.type "code", none, (.fields #[(.str "remove_dir_entry" 1064), (.str "FATDirectoryEntry.remove_dir_entry" 1065), (.str "/claim/cut.py" 1066), (.int 384 0), (.int 2 0), (.int 0 0), (.int 0 0), (.int 3 0), (.ref 565), (.bool true), (.int 181 0), (.ref 566), .none, (.ref 567), (.ref 568), (.ref 569), (.int 1069 0), (.int 384 0), (.str "/claim/cut.py" 1070)]), #[]⟩) ::
  (nat_lit 571, ⟨.type "function", none, (.func (fnQ (pk [17, 47]) "FATDirectoryEntry.remove_dir_entry" 3 [] .none .none .none (.str "pyfatfs.FATDirectoryEntry" 704) none (.ref 570) .none 0)), #[]⟩) ::
  (nat_lit 572, ⟨.type "tuple", none, (.seq #[] 0), #[]⟩) ::
  (nat_lit 574, ⟨.type "tuple", none, (.seq #[(.str "self" 1075)] 0), #[]⟩) ::
  (nat_lit 575, ⟨.type "tuple", none, (.seq #[] 0), #[]⟩) ::
  (nat_lit 577, ⟨.type "code", none, (.fields #[(.str "as_name" 1072), (.str "FATDirectoryEntry.as_name" 1073), (.str "/claim/cut.py" 1074), (.int 387 0), (.int 1 0), (.int 0 0), (.int 0 0), (.int 3 0), (.ref 572), (.bool true), (.int 181 0), (.ref 573), .none, (.ref 574), (.ref 575), (.ref 576), (.int 1076 0), (.int 387 0), (.str "/claim/cut.py" 1077)]), #[]⟩) ::
  (nat_lit 578, ⟨.type "function", none, (.func (fnQ (pk [17, 48]) "FATDirectoryEntry.as_name" 3 [] .none .none .none (.str "pyfatfs.FATDirectoryEntry" 704) none (.ref 577) .none 0)), #[]⟩) ::
  (nat_lit 579, ⟨.type "tuple", none, (.seq #[] 0), #[]⟩) ::
  (nat_lit 581, ⟨.type "tuple", none, (.seq #[(.str "self" 1082)] 0), #[]⟩) ::
  (nat_lit 582, ⟨.type "tuple", none, (.seq #[] 0), #[]⟩) ::
  (nat_lit 584, ⟨.type "code", none, (.fields #[(.str "get_short_name" 1079), (.str "FATDirectoryEntry.get_short_name" 1080), (.str "/claim/cut.py" 1081), (.int 390 0), (.int 1 0), (.int 0 0), (.int 0 0), (.int 3 0), (.ref 579), (.bool true), (.int 181 0), (.ref 580), .none, (.ref 581), (.ref 582), (.ref 583), (.int 1083 0), (.int 390 0), (.str "/claim/cut.py" 1084)]), #[]⟩) ::
  (nat_lit 585, ⟨.type "function", none, (.func (fnQ (pk [17, 49]) "FATDirectoryEntry.get_short_name" 3 [] .none .none .none (.str "pyfatfs.FATDirectoryEntry" 704) none (.ref 584) .none 0)), #[]⟩) ::
  (nat_lit 586, ⟨.type "tuple", none, (.seq #[] 0), #[]⟩) ::
  (nat_lit 588, ⟨.type "tuple", none, (.seq #[(.str "self" 1089)] 0), #[]⟩) ::
  (nat_lit 589, ⟨.type "tuple", none, (.seq #[] 0), #[]⟩) ::
  (nat_lit 591, ⟨.type "code", none, (.fields #[(.str "get_long_name" 1086), (.str "FATDirectoryEntry.get_long_name" 1087), (.str "/claim/cut.py" 1088), (.int 393 0), (.int 1 0), (.int 0 0), (.int 0 0), (.int 3 0), (.ref 586), (.bool true), (.int 181 0), (.ref 587), .none, (.ref 588), (.ref 589), (.ref 590), (.int 1090 0), (.int 393 0), (.str "/claim/cut.py" 1091)]), #[]⟩) ::
  (nat_lit 592, ⟨.type "function", none, (.func (fnQ (pk [17, 50]) "FATDirectoryEntry.get_long_name" 3 [] .none .none .none (.str "pyfatfs.FATDirectoryEntry" 704) none (.ref 591) .none 0)), #[]⟩) ::
  (nat_lit 593, ⟨.type "tuple", none, (.seq #[(.str "_dirs" 1093), (.str "_encoding" 1094), (.str "_fs" 1095), (.str "_lazy_load" 1096), (.str "_parent" 1097), (.str "attr" 1098), (.str "crtdate" 1099), (.str "crttime" 1100), (.str "crttimetenth" 1101), (.str "filesize" 1102), (.str "fstclushi" 1103), (.str "fstcluslo" 1104), (.str "lfn_entry" 1105), (.str "lstaccessdate" 1106), (.str "name" 1107), (.str "ntres" 1108), (.str "wrtdate" 1109), (.str "wrttime" 1110)] 0), #[]⟩) ::
  (nat_lit 594, ⟨.type "dict", none, (.dict #[⟨PyData.keyHash P "__module__", .str "__module__" 713, .str "pyfatfs.FATDirectoryEntry" 704⟩, ⟨PyData.keyHash P "__firstlineno__", .str "__firstlineno__" 717, .int 207 716⟩, ⟨PyData.keyHash P "FREE_DIR_ENTRY_MARK", .str "FREE_DIR_ENTRY_MARK" 719, .int 229 718⟩, ⟨PyData.keyHash P "LAST_DIR_ENTRY_MARK", .str "LAST_DIR_ENTRY_MARK" 721, .int 0 720⟩, ⟨PyData.keyHash P "ATTR_READ_ONLY", .str "ATTR_READ_ONLY" 723, .int 1 722⟩, ⟨PyData.keyHash P "ATTR_HIDDEN", .str "ATTR_HIDDEN" 725, .int 2 724⟩, ⟨PyData.keyHash P "ATTR_SYSTEM", .str "ATTR_SYSTEM" 727, .int 4 726⟩, ⟨PyData.keyHash P "ATTR_VOLUME_ID", .str "ATTR_VOLUME_ID" 729, .int 8 728⟩, ⟨PyData.keyHash P "ATTR_DIRECTORY", .str "ATTR_DIRECTORY" 731, .int 16 730⟩, ⟨PyData.keyHash P "ATTR_ARCHIVE", .str "ATTR_ARCHIVE" 733, .int 32 732⟩, ⟨PyData.keyHash P "ATTR_LONG_NAME", .str "ATTR_LONG_NAME" 735, .int 15 734⟩, ⟨PyData.keyHash P "ATTR_LONG_NAME_MASK", .str "ATTR_LONG_NAME_MASK" 737, .int 63 736⟩, ⟨PyData.keyHash P "FAT_DIRECTORY_HEADER_SIZE", .str "FAT_DIRECTORY_HEADER_SIZE" 739, .int 32 738⟩, ⟨PyData.keyHash P "MAX_FILE_SIZE", .str "MAX_FILE_SIZE" 741, .int 4294967295 740⟩, ⟨PyData.keyHash P "FAT_DIRECTORY_VARS", .str "FAT_DIRECTORY_VARS" 754, .ref 317⟩, ⟨PyData.keyHash P "__init__", .str "__init__" 777, .ref 325⟩, ⟨PyData.keyHash P "set_size", .str "set_size" 785, .ref 332⟩, ⟨PyData.keyHash P "new", .str "new" 816, .ref 342⟩, ⟨PyData.keyHash P "get_ctime", .str "get_ctime" 823, .ref 350⟩, ⟨PyData.keyHash P "get_mtime", .str "get_mtime" 830, .ref 357⟩, ⟨PyData.keyHash P "get_atime", .str "get_atime" 837, .ref 364⟩, ⟨PyData.keyHash P "_combine_dosdatetime", .str "_combine_dosdatetime" 857, .ref 373⟩, ⟨PyData.keyHash P "get_checksum", .str "get_checksum" 864, .ref 381⟩, ⟨PyData.keyHash P "set_lfn_entry", .str "set_lfn_entry" 875, .ref 388⟩, ⟨PyData.keyHash P "get_entry_size", .str "get_entry_size" 882, .ref 395⟩, ⟨PyData.keyHash P "get_cluster", .str "get_cluster" 889, .ref 402⟩, ⟨PyData.keyHash P "set_cluster", .str "set_cluster" 897, .ref 409⟩, ⟨PyData.keyHash P "as_bytes", .str "as_bytes" 904, .ref 416⟩, ⟨PyData.keyHash P "_add_parent", .str "_add_parent" 912, .ref 423⟩, ⟨PyData.keyHash P "_get_parent_dir", .str "_get_parent_dir" 920, .ref 430⟩, ⟨PyData.keyHash P "get_full_path", .str "get_full_path" 927, .ref 437⟩, ⟨PyData.keyHash P "get_parent_dir", .str "get_parent_dir" 934, .ref 444⟩, ⟨PyData.keyHash P "is_special", .str "is_special" 941, .ref 451⟩, ⟨PyData.keyHash P "is_read_only", .str "is_read_only" 948, .ref 458⟩, ⟨PyData.keyHash P "is_hidden", .str "is_hidden" 955, .ref 465⟩, ⟨PyData.keyHash P "is_system", .str "is_system" 962, .ref 472⟩, ⟨PyData.keyHash P "is_volume_id", .str "is_volume_id" 969, .ref 479⟩, ⟨PyData.keyHash P "_verify_is_directory", .str "_verify_is_directory" 976, .ref 486⟩, ⟨PyData.keyHash P "is_directory", .str "is_directory" 983, .ref 493⟩, ⟨PyData.keyHash P "is_archive", .str "is_archive" 990, .ref 500⟩, ⟨PyData.keyHash P "is_empty", .str "is_empty" 997, .ref 507⟩, ⟨PyData.keyHash P "_populate_dirs", .str "_populate_dirs" 1006, .ref 514⟩, ⟨PyData.keyHash P "_get_entries_raw", .str "_get_entries_raw" 1013, .ref 521⟩, ⟨PyData.keyHash P "get_entries", .str "get_entries" 1024, .ref 528⟩, ⟨PyData.keyHash P "_search_entry", .str "_search_entry" 1032, .ref 535⟩, ⟨PyData.keyHash P "get_entry", .str "get_entry" 1040, .ref 542⟩, ⟨PyData.keyHash P "walk", .str "walk" 1047, .ref 549⟩, ⟨PyData.keyHash P "add_subdirectory", .str "add_subdirectory" 1056, .ref 557⟩, ⟨PyData.keyHash P "mark_empty", .str "mark_empty" 1063, .ref 564⟩, ⟨PyData.keyHash P "remove_dir_entry", .str "remove_dir_entry" 1071, .ref 571⟩, ⟨PyData.keyHash P "as_name", .str "as_name" 1078, .ref 578⟩, ⟨PyData.keyHash P "get_short_name", .str "get_short_name" 1085, .ref 585⟩, ⟨PyData.keyHash P "get_long_name", .str "get_long_name" 1092, .ref 592⟩, ⟨PyData.keyHash P "__static_attributes__", .str "__static_attributes__" 1111, .ref 593⟩, ⟨PyData.keyHash P "__dict__", .str "__dict__" 1113, .ref 596⟩, ⟨PyData.keyHash P "__weakref__", .str "__weakref__" 1115, .ref 597⟩, ⟨PyData.keyHash P "__doc__", .str "__doc__" 1116, .none⟩] 4), #[]⟩) ::
  (nat_lit 595, ⟨.type "type", none, (.cls ⟨"FATDirectoryEntry", [.type "object"], [.ref 595, .type "object"], 594, "FATDirectoryEntry", true, [], [], false, none, false⟩), #[none, none, (some (.str "FATDirectoryEntry" 706)), (some (.str "FATDirectoryEntry" 714)), (some (.builtin "object.__new__")), (some (.bool true))]⟩) ::
  (nat_lit 596, ⟨.type "getset_descriptor", none, (.fields #[(.str "__dict__" 1112), (.ref 595), (.builtin "function.__dict__"), (.builtin "function.__dict__#set")]), #[]⟩) ::
  (nat_lit 597, ⟨.type "getset_descriptor", none, (.fields #[(.str "__weakref__" 1114), (.ref 595), (.builtin "ExceptionGroup.__weakref__"), .none]), #[]⟩) ::
  (nat_lit 600, ⟨.type "tuple", none, (.seq #[(.type "object")] 0), #[]⟩) ::
  (nat_lit 607, ⟨.type "list", none, (.seq #[(.str "LDIR_Ord" 1131), (.str "LDIR_Name1" 1132), (.str "LDIR_Attr" 1133), (.str "LDIR_Type" 1134), (.str "LDIR_Chksum" 1135), (.str "LDIR_Name2" 1136), (.str "LDIR_FstClusLO" 1137), (.str "LDIR_Name3" 1138)] 0), #[]⟩) ::
  (nat_lit 608, ⟨.type "tuple", none, (.seq #[] 0), #[]⟩) ::
  (nat_lit 610, ⟨.type "tuple", none, (.seq #[(.str "self" 1147)] 0), #[]⟩) ::
  (nat_lit 611, ⟨.type "tuple", none, (.seq #[] 0), #[]⟩) ::
  (nat_lit 613, ⟨.type "code", none, (.fields #[(.str "__init__" 1144), (.str "FATLongDirectoryEntry.__init__" 1145), (.str "/claim/cut.py" 1146), (.int 400 0), (.int 1 0), (.int 0 0), (.int 0 0), (.int 3 0), (.ref 608), (.bool true), (.int 181 0), (.ref 609), .none, (.ref 610), (.ref 611), (.ref 612), (.int 1148 0), (.int 400 0), (.str "/claim/cut.py" 1149)]), #[]⟩) ::
  (nat_lit 614, ⟨.type "function", none, (.func (fnQ (pk [18, 3]) "FATLongDirectoryEntry.__init__" 3 [] .none .none .none (.str "pyfatfs.FATDirectoryEntry" 704) none (.ref 613) .none 0)), #[]⟩) ::
  (nat_lit 615, ⟨.type "tuple", none, (.seq #[(.bool false)] 0), #[]⟩) ::
  (nat_lit 616, ⟨.type "tuple", none, (.seq #[] 0), #[]⟩) ::
  (nat_lit 618, ⟨.type "tuple", none, (.seq #[(.str "self" 1154), (.str "reverse" 1155), (.str "_" 1156), (.str "e" 1157)] 0), #[]⟩) ::
  (nat_lit 619, ⟨.type "tuple", none, (.seq #[] 0), #[]⟩) ::
  (nat_lit 621, ⟨.type "code", none, (.fields #[(.str "get_entries" 1151), (.str "FATLongDirectoryEntry.get_entries" 1152), (.str "/claim/cut.py" 1153), (.int 403 0), (.int 2 0), (.int 0 0), (.int 0 0), (.int 35 0), (.ref 616), (.bool true), (.int 181 0), (.ref 617), .none, (.ref 618), (.ref 619), (.ref 620), (.int 1158 0), (.int 403 0), (.str "/claim/cut.py" 1159)]), #[]⟩) ::
  (nat_lit 622, ⟨.type "function", none, (.func (fnQ (pk [18, 4]) "FATLongDirectoryEntry.get_entries" 3 [] (.ref 615) .none .none (.str "pyfatfs.FATDirectoryEntry" 704) none (.ref 621) .none 0)), #[]⟩) ::
  (nat_lit 623, ⟨.type "tuple", none, (.seq #[] 0), #[]⟩) ::
  (nat_lit 625, ⟨.type "tuple", none, (.seq #[(.str "self" 1164)] 0), #[]⟩) ::
  (nat_lit 626, ⟨.type "tuple", none, (.seq #[] 0), #[]⟩) ::
  (nat_lit 628, ⟨.type "code", none, (.fields #[(.str "mark_empty" 1161), (.str "FATLongDirectoryEntry.mark_empty" 1162), (.str "/claim/cut.py" 1163), (.int 407 0), (.int 1 0), (.int 0 0), (.int 0 0), (.int 3 0), (.ref 623), (.bool true), (.int 181 0), (.ref 624), .none, (.ref 625), (.ref 626), (.ref 627), (.int 1165 0), (.int 407 0), (.str "/claim/cut.py" 1166)]), #[]⟩) ::
  (nat_lit 629, ⟨.type "function", none, (.func (fnQ (pk [18, 5]) "FATLongDirectoryEntry.mark_empty" 3 [] .none .none .none (.str "pyfatfs.FATDirectoryEntry" 704) none (.ref 628) .none 0)), #[]⟩) ::
  (nat_lit 630, ⟨.type "tuple", none, (.seq #[] 0), #[]⟩) ::
  (nat_lit 632, ⟨.type "tuple", none, (.seq #[(.str "self" 1171)] 0), #[]⟩) ::
  (nat_lit 633, ⟨.type "tuple", none, (.seq #[] 0), #[]⟩) ::
  (nat_lit 635, ⟨.type "code", none, (.fields #[(.str "as_bytes" 1168), (.str "FATLongDirectoryEntry.as_bytes" 1169), (.str "/claim/cut.py" 1170), (.int 410 0), (.int 1 0), (.int 0 0), (.int 0 0), (.int 3 0), (.ref 630), (.bool true), (.int 181 0), (.ref 631), .none, (.ref 632), (.ref 633), (.ref 634), (.int 1172 0), (.int 410 0), (.str "/claim/cut.py" 1173)]), #[]⟩) ::
  (nat_lit 636, ⟨.type "function", none, (.func (fnQ (pk [18, 6]) "FATLongDirectoryEntry.as_bytes" 3 [] .none .none .none (.str "pyfatfs.FATDirectoryEntry" 704) none (.ref 635) .none 0)), #[]⟩) ::
  (nat_lit 637, ⟨.type "tuple", none, (.seq #[] 0), #[]⟩) ::
  (nat_lit 639, ⟨.type "tuple", none, (.seq #[(.str "self" 1178), (.str "name" 1179), (.str "e" 1180), (.str "h" 1181)] 0), #[]⟩) ::
  (nat_lit 640, ⟨.type "tuple", none, (.seq #[] 0), #[]⟩) ::
  (nat_lit 642, ⟨.type "code", none, (.fields #[(.str "as_text" 1175), (.str "FATLongDirectoryEntry.as_text" 1176), (.str "/claim/cut.py" 1177), (.int 413 0), (.int 1 0), (.int 0 0), (.int 0 0), (.int 3 0), (.ref 637), (.bool true), (.int 181 0), (.ref 638), .none, (.ref 639), (.ref 640), (.ref 641), (.int 1182 0), (.int 413 0), (.str "/claim/cut.py" 1183)]), #[]⟩) ::
  (nat_lit 643, ⟨.type "function", none, (.func (fnQ (pk [18, 7]) "FATLongDirectoryEntry.as_text" 3 [] .none .none .none (.str "pyfatfs.FATDirectoryEntry" 704) none (.ref 642) .none 0)), #[]⟩) ::
  (nat_lit 644, ⟨.type "tuple", none, (.seq #[] 0), #[]⟩) ::
  (nat_lit 646, ⟨.type "tuple", none, (.seq #[(.str "LDIR_Ord" 1188), (.str "LDIR_Attr" 1189)] 0), #[]⟩) ::
  (nat_lit 647, ⟨.type "tuple", none, (.seq #[] 0), #[]⟩) ::
  (nat_lit 649, ⟨.type "code", none, (.fields #[(.str "is_lfn_entry" 1185), (.str "FATLongDirectoryEntry.is_lfn_entry" 1186), (.str "/claim/cut.py" 1187), (.int 425 0), (.int 2 0), (.int 0 0), (.int 0 0), (.int 3 0), (.ref 644), (.bool true), (.int 181 0), (.ref 645), .none, (.ref 646), (.ref 647), (.ref 648), (.int 1190 0), (.int 425 0), (.str "/claim/cut.py" 1191)]), #[]⟩) ::
  (nat_lit 650, ⟨.type "function", none, (.func (fnQ (pk [18, 8]) "FATLongDirectoryEntry.is_lfn_entry" 3 [] .none .none .none (.str "pyfatfs.FATDirectoryEntry" 704) (some 653) (.ref 649) .none 0)), #[]⟩) ::
  (nat_lit 651, ⟨.type "dict", none, (.dict #[⟨PyData.keyHash P "__module__", .str "__module__" 1193, .str "pyfatfs.FATDirectoryEntry" 704⟩, ⟨PyData.keyHash P "__name__", .str "__name__" 1196, .str "is_lfn_entry" 1195⟩, ⟨PyData.keyHash P "__qualname__", .str "__qualname__" 1199, .str "FATLongDirectoryEntry.is_lfn_entry" 1198⟩, ⟨PyData.keyHash P "__doc__", .str "__doc__" 1201, .none⟩, ⟨PyData.keyHash P "__annotations__", .str "__annotations__" 1203, .ref 653⟩] 5), #[]⟩) ::
  (nat_lit 652, ⟨.type "staticmethod", (some 651), (.fields #[(.ref 650), (.bool false)]), #[]⟩) ::
  (nat_lit 653, ⟨.type "dict", none, (.dict #[] 0), #[]⟩) ::
  (nat_lit 654, ⟨.type "tuple", none, (.seq #[] 0), #[]⟩) ::
  (nat_lit 656, ⟨.type "tuple", none, (.seq #[(.str "self" 1208), (.str "LDIR_Ord" 1209), (.str "LDIR_Name1" 1210), (.str "LDIR_Attr" 1211), (.str "LDIR_Type" 1212), (.str "LDIR_Chksum" 1213), (.str "LDIR_Name2" 1214), (.str "LDIR_FstClusLO" 1215), (.str "LDIR_Name3" 1216)] 0), #[]⟩) ::
  (nat_lit 657, ⟨.type "tuple", none, (.seq #[] 0), #[]⟩) ::
  (nat_lit 659, ⟨.type "code", none, (.fields #[(.str "add_lfn_entry" 1205), (.str "FATLongDirectoryEntry.add_lfn_entry" 1206), (.str "/claim/cut.py" 1207), (.int 429 0), (.int 9 0), (.int 0 0), (.int 0 0), (.int 3 0), (.ref 654), (.bool true), (.int 181 0), (.ref 655), .none, (.ref 656), (.ref 657), (.ref 658), (.int 1217 0), (.int 429 0), (.str "/claim/cut.py" 1218)]), #[]⟩) ::
  (nat_lit 660, ⟨.type "function", none, (.func (fnQ (pk [18, 9]) "FATLongDirectoryEntry.add_lfn_entry" 3 [] .none .none .none (.str "pyfatfs.FATDirectoryEntry" 704) none (.ref 659) .none 0)), #[]⟩) ::
  (nat_lit 661, ⟨.type "tuple", none, (.seq #[] 0), #[]⟩) ::
  (nat_lit 663, ⟨.type "tuple", none, (.seq #[(.str "self" 1223)] 0), #[]⟩) ::
  (nat_lit 664, ⟨.type "tuple", none, (.seq #[] 0), #[]⟩) ::
  (nat_lit 666, ⟨.type "code", none, (.fields #[(.str "is_lfn_entry_complete" 1220), (.str "FATLongDirectoryEntry.is_lfn_entry_complete" 1221), (.str "/claim/cut.py" 1222), (.int 432 0), (.int 1 0), (.int 0 0), (.int 0 0), (.int 3 0), (.ref 661), (.bool true), (.int 181 0), (.ref 662), .none, (.ref 663), (.ref 664), (.ref 665), (.int 1224 0), (.int 432 0), (.str "/claim/cut.py" 1225)]), #[]⟩) ::
  (nat_lit 667, ⟨.type "function", none, (.func (fnQ (pk [18, 10]) "FATLongDirectoryEntry.is_lfn_entry_complete" 3 [] .none .none .none (.str "pyfatfs.FATDirectoryEntry" 704) none (.ref 666) .none 0)), #[]⟩) ::
  (nat_lit 668, ⟨.type "tuple", none, (.seq #[(.str "lfn_entries" 1227)] 0), #[]⟩) ::
  (nat_lit 669, ⟨.type "dict", none, (.dict #[⟨PyData.keyHash P "__module__", .str "__module__" 1126, .str "pyfatfs.FATDirectoryEntry" 704⟩, ⟨PyData.keyHash P "__firstlineno__", .str "__firstlineno__" 1130, .int 395 1129⟩, ⟨PyData.keyHash P "FAT_LONG_DIRECTORY_VARS", .str "FAT_LONG_DIRECTORY_VARS" 1139, .ref 607⟩, ⟨PyData.keyHash P "LAST_LONG_ENTRY", .str "LAST_LONG_ENTRY" 1141, .int 64 1140⟩, ⟨PyData.keyHash P "LFN_ENTRY_LENGTH", .str "LFN_ENTRY_LENGTH" 1143, .int 26 1142⟩, ⟨PyData.keyHash P "__init__", .str "__init__" 1150, .ref 614⟩, ⟨PyData.keyHash P "get_entries", .str "get_entries" 1160, .ref 622⟩, ⟨PyData.keyHash P "mark_empty", .str "mark_empty" 1167, .ref 629⟩, ⟨PyData.keyHash P "as_bytes", .str "as_bytes" 1174, .ref 636⟩, ⟨PyData.keyHash P "as_text", .str "as_text" 1184, .ref 643⟩, ⟨PyData.keyHash P "is_lfn_entry", .str "is_lfn_entry" 1204, .ref 652⟩, ⟨PyData.keyHash P "add_lfn_entry", .str "add_lfn_entry" 1219, .ref 660⟩, ⟨PyData.keyHash P "is_lfn_entry_complete", .str "is_lfn_entry_complete" 1226, .ref 667⟩, ⟨PyData.keyHash P "__static_attributes__", .str "__static_attributes__" 1228, .ref 668⟩, ⟨PyData.keyHash P "__dict__", .str "__dict__" 1230, .ref 671⟩, ⟨PyData.keyHash P "__weakref__", .str "__weakref__" 1232, .ref 672⟩, ⟨PyData.keyHash P "__doc__", .str "__doc__" 1233, .none⟩] 4), #[]⟩) ::
  (nat_lit 670, ⟨.type "type", none, (.cls ⟨"FATLongDirectoryEntry", [.type "object"], [.ref 670, .type "object"], 669, "FATLongDirectoryEntry", true, [], [], false, none, false⟩), #[(some (.ref 600)), none, (some (.str "FATLongDirectoryEntry" 1119)), (some (.str "FATLongDirectoryEntry" 1127)), (some (.builtin "object.__new__")), (some (.bool true))]⟩) ::
  (nat_lit 671, ⟨.type "getset_descriptor", none, (.fields #[(.str "__dict__" 1229), (.ref 670), (.builtin "function.__dict__"), (.builtin "function.__dict__#set")]), #[]⟩) ::
  (nat_lit 672, ⟨.type "getset_descriptor", none, (.fields #[(.str "__weakref__" 1231), (.ref 670), (.builtin "ExceptionGroup.__weakref__"), .none]), #[]⟩) ::
  (nat_lit 675, ⟨.type "tuple", none, (.seq #[] 0), #[]⟩) ::
  (nat_lit 677, ⟨.type "tuple", none, (.seq #[(.str "year" 1241), (.str "month" 1242), (.str "shifted" 1243), (.str "turned" 1244)] 0), #[]⟩) ::
  (nat_lit 678, ⟨.type "tuple", none, (.seq #[] 0), #[]⟩) ::
  (nat_lit 680, ⟨.type "code", none, (.fields #[(.str "_law_days" 1238), (.str "_law_days" 1239), (.str "/claim/cut.py" 1240), (.int 435 0), (.int 2 0), (.int 0 0), (.int 0 0), (.int 3 0), (.ref 675), (.bool true), (.int 181 0), (.ref 676), .none, (.ref 677), (.ref 678), (.ref 679), (.int 1245 0), (.int 435 0), (.str "/claim/cut.py" 1246)]), #[]⟩) ::
  (nat_lit 681, ⟨.type "function", none, (.func (fnD (st := pk [20]) rfl "_law_days" 3 [] .none .none .none (.str "law_jr0027_01" 1236) none (.ref 680) .none 0)), #[]⟩) ::
  (nat_lit 682, ⟨.type "tuple", none, (.seq #[] 0), #[]⟩) ::
  (nat_lit 684, ⟨.type "tuple", none, (.seq #[(.str "year" 1251), (.str "month" 1252), (.str "day" 1253)] 0), #[]⟩) ::
  (nat_lit 685, ⟨.type "tuple", none, (.seq #[] 0), #[]⟩) ::
  (nat_lit 687, ⟨.type "code", none, (.fields #[(.str "_law_is_day" 1248), (.str "_law_is_day" 1249), (.str "/claim/cut.py" 1250), (.int 441 0), (.int 3 0), (.int 0 0), (.int 0 0), (.int 3 0), (.ref 682), (.bool true), (.int 181 0), (.ref 683), .none, (.ref 684), (.ref 685), (.ref 686), (.int 1254 0), (.int 441 0), (.str "/claim/cut.py" 1255)]), #[]⟩) ::
  (nat_lit 688, ⟨.type "function", none, (.func (fnD (st := pk [21]) rfl "_law_is_day" 3 [] .none .none .none (.str "law_jr0027_01" 1236) none (.ref 687) .none 0)), #[]⟩) ::
  (nat_lit 689, ⟨.type "tuple", none, (.seq #[] 0), #[]⟩) ::
  (nat_lit 691, ⟨.type "tuple", none, (.seq #[(.str "hour" 1260), (.str "minute" 1261), (.str "second" 1262)] 0), #[]⟩) ::
  (nat_lit 692, ⟨.type "tuple", none, (.seq #[] 0), #[]⟩) ::
  (nat_lit 694, ⟨.type "code", none, (.fields #[(.str "_law_is_time" 1257), (.str "_law_is_time" 1258), (.str "/claim/cut.py" 1259), (.int 445 0), (.int 3 0), (.int 0 0), (.int 0 0), (.int 3 0), (.ref 689), (.bool true), (.int 181 0), (.ref 690), .none, (.ref 691), (.ref 692), (.ref 693), (.int 1263 0), (.int 445 0), (.str "/claim/cut.py" 1264)]), #[]⟩) ::
  (nat_lit 695, ⟨.type "function", none, (.func (fnD (st := pk [22]) rfl "_law_is_time" 3 [] .none .none .none (.str "law_jr0027_01" 1236) none (.ref 694) .none 0)), #[]⟩) ::
  (nat_lit 696, ⟨.type "tuple", none, (.seq #[] 0), #[]⟩) ::
  (nat_lit 698, ⟨.type "tuple", none, (.seq #[(.str "word" 1269), (.str "date" 1270)] 0), #[]⟩) ::
  (nat_lit 699, ⟨.type "tuple", none, (.seq #[] 0), #[]⟩) ::
  (nat_lit 701, ⟨.type "code", none, (.fields #[(.str "_law_date" 1266), (.str "_law_date" 1267), (.str "/claim/cut.py" 1268), (.int 447 0), (.int 1 0), (.int 0 0), (.int 0 0), (.int 3 0), (.ref 696), (.bool true), (.int 181 0), (.ref 697), .none, (.ref 698), (.ref 699), (.ref 700), (.int 1271 0), (.int 447 0), (.str "/claim/cut.py" 1272)]), #[]⟩) ::
  (nat_lit 702, ⟨.type "function", none, (.func (fnD (st := pk [23]) rfl "_law_date" 3 [] .none .none .none (.str "law_jr0027_01" 1236) none (.ref 701) .none 0)), #[]⟩) ::
  (nat_lit 703, ⟨.type "tuple", none, (.seq #[] 0), #[]⟩) ::
  (nat_lit 705, ⟨.type "tuple", none, (.seq #[(.str "word" 1277), (.str "clock" 1278)] 0), #[]⟩) ::
  (nat_lit 706, ⟨.type "tuple", none, (.seq #[] 0), #[]⟩) ::
  (nat_lit 708, ⟨.type "code", none, (.fields #[(.str "_law_time" 1274), (.str "_law_time" 1275), (.str "/claim/cut.py" 1276), (.int 450 0), (.int 1 0), (.int 0 0), (.int 0 0), (.int 3 0), (.ref 703), (.bool true), (.int 181 0), (.ref 704), .none, (.ref 705), (.ref 706), (.ref 707), (.int 1279 0), (.int 450 0), (.str "/claim/cut.py" 1280)]), #[]⟩) ::
  (nat_lit 709, ⟨.type "function", none, (.func (fnD (st := pk [24]) rfl "_law_time" 3 [] .none .none .none (.str "law_jr0027_01" 1236) none (.ref 708) .none 0)), #[]⟩) ::
  (nat_lit 710, ⟨.type "tuple", none, (.seq #[] 0), #[]⟩) ::
  (nat_lit 712, ⟨.type "tuple", none, (.seq #[(.str "one" 1285)] 0), #[]⟩) ::
  (nat_lit 713, ⟨.type "tuple", none, (.seq #[] 0), #[]⟩) ::
  (nat_lit 715, ⟨.type "code", none, (.fields #[(.str "_law_six" 1282), (.str "_law_six" 1283), (.str "/claim/cut.py" 1284), (.int 453 0), (.int 1 0), (.int 0 0), (.int 0 0), (.int 3 0), (.ref 710), (.bool true), (.int 181 0), (.ref 711), .none, (.ref 712), (.ref 713), (.ref 714), (.int 1286 0), (.int 453 0), (.str "/claim/cut.py" 1287)]), #[]⟩) ::
  (nat_lit 716, ⟨.type "function", none, (.func (fnD (st := pk [25]) rfl "_law_six" 3 [] .none .none .none (.str "law_jr0027_01" 1236) none (.ref 715) .none 0)), #[]⟩) ::
  (nat_lit 717, ⟨.type "tuple", none, (.seq #[] 0), #[]⟩) ::
  (nat_lit 719, ⟨.type "tuple", none, (.seq #[(.str "n" 1292), (.str "many" 1293), (.str "by" 1294)] 0), #[]⟩) ::
  (nat_lit 720, ⟨.type "tuple", none, (.seq #[] 0), #[]⟩) ::
  (nat_lit 722, ⟨.type "code", none, (.fields #[(.str "_law_wide" 1289), (.str "_law_wide" 1290), (.str "/claim/cut.py" 1291), (.int 455 0), (.int 3 0), (.int 0 0), (.int 0 0), (.int 3 0), (.ref 717), (.bool true), (.int 181 0), (.ref 718), .none, (.ref 719), (.ref 720), (.ref 721), (.int 1295 0), (.int 455 0), (.str "/claim/cut.py" 1296)]), #[]⟩) ::
  (nat_lit 723, ⟨.type "function", none, (.func (fnD (st := pk [26]) rfl "_law_wide" 3 [] .none .none .none (.str "law_jr0027_01" 1236) none (.ref 722) .none 0)), #[]⟩) ::
  (nat_lit 724, ⟨.type "tuple", none, (.seq #[] 0), #[]⟩) ::
  (nat_lit 726, ⟨.type "tuple", none, (.seq #[(.str "way" 1301), (.str "numbers" 1302), (.str "one" 1303)] 0), #[]⟩) ::
  (nat_lit 727, ⟨.type "tuple", none, (.seq #[] 0), #[]⟩) ::
  (nat_lit 729, ⟨.type "code", none, (.fields #[(.str "_law_made" 1298), (.str "_law_made" 1299), (.str "/claim/cut.py" 1300), (.int 457 0), (.int 2 0), (.int 0 0), (.int 0 0), (.int 3 0), (.ref 724), (.bool true), (.int 181 0), (.ref 725), .none, (.ref 726), (.ref 727), (.ref 728), (.int 1304 0), (.int 457 0), (.str "/claim/cut.py" 1305)]), #[]⟩) ::
  (nat_lit 730, ⟨.type "function", none, (.func (fnD (st := pk [27]) rfl "_law_made" 3 [] .none .none .none (.str "law_jr0027_01" 1236) none (.ref 729) .none 0)), #[]⟩) ::
  (nat_lit 731, ⟨.type "tuple", none, (.seq #[] 0), #[]⟩) ::
  (nat_lit 733, ⟨.type "tuple", none, (.seq #[(.str "word" 1310), (.str "other" 1311), (.str "date" 1312), (.str "told" 1313), (.str "back" 1314), (.str "clock" 1315), (.str "moment" 1316), (.str "both" 1317), (.str "again" 1318)] 0), #[]⟩) ::
  (nat_lit 734, ⟨.type "tuple", none, (.seq #[] 0), #[]⟩) ::
  (nat_lit 736, ⟨.type "code", none, (.fields #[(.str "_law_word" 1307), (.str "_law_word" 1308), (.str "/claim/cut.py" 1309), (.int 466 0), (.int 2 0), (.int 0 0), (.int 0 0), (.int 3 0), (.ref 731), (.bool true), (.int 181 0), (.ref 732), .none, (.ref 733), (.ref 734), (.ref 735), (.int 1319 0), (.int 466 0), (.str "/claim/cut.py" 1320)]), #[]⟩) ::
  (nat_lit 737, ⟨.type "function", none, (.func (fnD (st := pk [28]) rfl "_law_word" 3 [] .none .none .none (.str "law_jr0027_01" 1236) none (.ref 736) .none 0)), #[]⟩) ::
  (nat_lit 738, ⟨.type "tuple", none, (.seq #[] 0), #[]⟩) ::
  (nat_lit 741, ⟨.type "code", none, (.fields #[(.str "_law_entry" 1322), (.str "_law_entry" 1323), (.str "/claim/cut.py" 1324), (.int 485 0), (.int 1 0), (.int 0 0), (.int 0 0), (.int 3 0), (.ref 738), (.bool true), (.int 181 0), (.ref 739), .none, .none, .none, (.ref 740), (.int 1325 0), (.int 485 0), (.str "/claim/cut.py" 1326)]), #[]⟩) ::
  (nat_lit 742, ⟨.type "function", none, (.func (fnD (st := pk [29]) rfl "_law_entry" 3 [] .none .none .none (.str "law_jr0027_01" 1236) none (.ref 741) .none 0)), #[]⟩) ::
  (nat_lit 743, ⟨.type "tuple", none, (.seq #[] 0), #[]⟩) ::
  (nat_lit 745, ⟨.type "tuple", none, (.seq #[(.str "numbers" 1331), (.str "one" 1332), (.str "date" 1333), (.str "clock" 1334), (.str "even" 1335), (.str "short" 1336), (.str "entry" 1337), (.str "told" 1338)] 0), #[]⟩) ::
  (nat_lit 746, ⟨.type "tuple", none, (.seq #[] 0), #[]⟩) ::
  (nat_lit 748, ⟨.type "code", none, (.fields #[(.str "_law_moment" 1328), (.str "_law_moment" 1329), (.str "/claim/cut.py" 1330), (.int 493 0), (.int 1 0), (.int 0 0), (.int 0 0), (.int 3 0), (.ref 743), (.bool true), (.int 181 0), (.ref 744), .none, (.ref 745), (.ref 746), (.ref 747), (.int 1339 0), (.int 493 0), (.str "/claim/cut.py" 1340)]), #[]⟩) ::
  (nat_lit 749, ⟨.type "function", none, (.func (fnD (st := pk [30]) rfl "_law_moment" 3 [] .none .none .none (.str "law_jr0027_01" 1236) none (.ref 748) .none 0)), #[]⟩) ::
  (nat_lit 750, ⟨.type "tuple", none, (.seq #[] 0), #[]⟩) ::
  (nat_lit 753, ⟨.type "code", none, (.fields #[(.str "law" 1342), (.str "law" 1343), (.str "/claim/cut.py" 1344), (.int 506 0), (.int 1 0), (.int 0 0), (.int 0 0), (.int 3 0), (.ref 750), (.bool true), (.int 181 0), (.ref 751), .none, .none, .none, (.ref 752), (.int 1345 0), (.int 506 0), (.str "/claim/cut.py" 1346)]), #[]⟩) ::
  (nat_lit 754, ⟨.type "function", none, (.func (fnD (st := pk [31]) rfl "law" 3 [] .none .none .none (.str "law_jr0027_01" 1236) none (.ref 753) .none 0)), #[]⟩) ::
  []
set_option maxRecDepth 100000 in
set_option maxHeartbeats 8000000 in
noncomputable def extra (P : Params) : Frag := [
  (0, boot_o_0 P),
  (1, boot_o_1 P),
  (4, boot_o_4 P),
  (5, boot_o_5 P),
  (6, boot_o_6 P),
  (7, boot_o_7 P),
  (8, boot_o_8 P),
  (9, boot_o_9 P),
  (10, boot_o_10 P),
  (11, ⟨.type "tuple", none, (.seq #[] 0), #[]⟩),
  (12, ⟨.none, none, (.fields (List.toArray ((.int 1 0) :: (.int 0 0) :: (.ref 20) :: (.int 5 0) :: (.int 0 0) :: (.ref 27) :: (.int 13 0) :: (.int 0 0) :: (.ref 48) :: (.int 64 0) :: (.int 0 0) :: (.ref 115) :: (.int 69 0) :: (.int 0 0) :: (.ref 137) :: (.int 71 0) :: (.int 0 0) :: (.ref 149) :: (.int 88 0) :: (.int 0 0) :: (.ref 161) :: (.int 90 0) :: (.int 0 0) :: (.ref 166) :: (.int 92 0) :: (.int 0 0) :: (.ref 171) :: (.int 108 0) :: (.int 0 0) :: (.ref 178) :: (.int 115 0) :: (.int 0 0) :: (.ref 185) :: (.int 119 0) :: (.int 0 0) :: (.ref 192) :: (.int 207 0) :: (.int 0 0) :: (.ref 315) :: (.int 395 0) :: (.int 0 0) :: (.ref 605) :: (.int 435 0) :: (.int 0 0) :: (.ref 680) :: (.int 441 0) :: (.int 0 0) :: (.ref 687) :: (.int 445 0) :: (.int 0 0) :: (.ref 694) :: (.int 447 0) :: (.int 0 0) :: (.ref 701) :: (.int 450 0) :: (.int 0 0) :: (.ref 708) :: (.int 453 0) :: (.int 0 0) :: (.ref 715) :: (.int 455 0) :: (.int 0 0) :: (.ref 722) :: (.int 457 0) :: (.int 0 0) :: (.ref 729) :: (.int 466 0) :: (.int 0 0) :: (.ref 736) :: (.int 485 0) :: (.int 0 0) :: (.ref 741) :: (.int 493 0) :: (.int 0 0) :: (.ref 748) :: (.int 506 0) :: (.int 0 0) :: (.ref 753) :: []))), #[]⟩),
  (13, ⟨.type "code", none, (.fields #[(.str "<module>" 182), (.str "<module>" 183), (.str "/claim/cut.py" 184), (.int 1 0), (.int 0 0), (.int 0 0), (.int 0 0), (.int 0 0), (.ref 11), (.bool false), (.int 181 0), (.ref 12), .none, .none, .none, .none, (.int 185 0), (.int 1 0), (.str "/claim/cut.py" 186)]), #[]⟩),
  (14, ⟨.type "frame", none, .plain, #[(some (.ref 13)), (some (.ref 3)), (some (.ref 3)), none, (some (.str "__main__" 164)), none, (some (.ref 0))]⟩),
  (16, ⟨.none, none, (.fields #[]), #[]⟩),
  (19, ⟨.none, none, (.func (fnQ (pk [0]) "_wall" 0 [] .none .none .none .none none .none .none 0)), #[]⟩),
  (22, ⟨.type "tuple", none, (.seq #[] 0), #[]⟩),
  (23, ⟨.type "builtin_function_or_method", none, (.fields #[(.builtin "type.__prepare__"), (.type "type")]), #[]⟩),
  (24, ⟨.type "dict", none, (.dict #[⟨PyData.keyHash P "__module__", .str "__module__" 203, .str "pyfatfs.DosDateTime" 194⟩, ⟨PyData.keyHash P "__qualname__", .str "__qualname__" 205, .str "DosTime" 204⟩, ⟨PyData.keyHash P "__firstlineno__", .str "__firstlineno__" 207, .int 5 206⟩, ⟨PyData.keyHash P "__init__", .str "__init__" 217, .ref 35⟩, ⟨PyData.keyHash P "__static_attributes__", .str "__static_attributes__" 221, .ref 36⟩] 5), #[]⟩),
  (25, ⟨.type "tuple", none, (.seq #[] 0), #[]⟩),
  (26, ⟨.none, none, (.fields #[(.int 7 0), (.int 4 0), (.ref 34)]), #[]⟩),
  (27, ⟨.type "code", none, (.fields #[(.str "DosTime" 198), (.str "DosTime" 199), (.str "/claim/cut.py" 200), (.int 5 0), (.int 0 0), (.int 0 0), (.int 0 0), (.int 0 0), (.ref 25), (.bool false), (.int 181 0), (.ref 26), .none, .none, .none, .none, (.int 201 0), (.int 5 0), (.str "/claim/cut.py" 202)]), #[]⟩),
  (28, ⟨.type "frame", none, .plain, #[(some (.ref 27)), (some (.ref 3)), (some (.ref 24)), none, (some (.str "pyfatfs.DosDateTime" 194)), none, (some (.ref 0))]⟩),
  (30, ⟨.none, none, (.fields #[]), #[]⟩),
  (33, ⟨.none, none, (.func (fnQ (pk [2, 0]) "DosTime.__init__" 0 [] .none .none .none .none none .none .none 0)), #[]⟩),
  (41, ⟨.type "super", none, (.fields #[(.ref 38), (.ref 38), (.ref 38)]), #[]⟩),
  (42, ⟨.type "builtin_function_or_method", none, (.fields #[(.builtin "object.__init_subclass__"), (.ref 38)]), #[]⟩),
  (43, ⟨.type "tuple", none, (.seq #[] 0), #[]⟩),
  (44, ⟨.type "builtin_function_or_method", none, (.fields #[(.builtin "type.__prepare__"), (.type "type")]), #[]⟩),
  (45, ⟨.type "dict", none, (.dict #[⟨PyData.keyHash P "__module__", .str "__module__" 236, .str "pyfatfs.DosDateTime" 194⟩, ⟨PyData.keyHash P "__qualname__", .str "__qualname__" 238, .str "DosDateTime" 237⟩, ⟨PyData.keyHash P "__firstlineno__", .str "__firstlineno__" 240, .int 13 239⟩, ⟨PyData.keyHash P "__init__", .str "__init__" 258, .ref 57⟩, ⟨PyData.keyHash P "combine", .str "combine" 278, .ref 66⟩, ⟨PyData.keyHash P "serialize_date", .str "serialize_date" 286, .ref 74⟩, ⟨PyData.keyHash P "serialize_time", .str "serialize_time" 294, .ref 81⟩, ⟨PyData.keyHash P "deserialize_date", .str "deserialize_date" 316, .ref 90⟩, ⟨PyData.keyHash P "deserialize_time", .str "deserialize_time" 338, .ref 100⟩, ⟨PyData.keyHash P "__static_attributes__", .str "__static_attributes__" 345, .ref 102⟩] 10), #[]⟩),
  (46, ⟨.type "tuple", none, (.seq #[] 0), #[]⟩),
  (47, ⟨.none, none, (.fields #[(.int 15 0), (.int 4 0), (.ref 56), (.int 32 0), (.int 4 0), (.ref 63), (.int 35 0), (.int 4 0), (.ref 73), (.int 39 0), (.int 4 0), (.ref 80), (.int 45 0), (.int 4 0), (.ref 87), (.int 55 0), (.int 4 0), (.ref 97)]), #[]⟩),
  (48, ⟨.type "code", none, (.fields #[(.str "DosDateTime" 231), (.str "DosDateTime" 232), (.str "/claim/cut.py" 233), (.int 13 0), (.int 0 0), (.int 0 0), (.int 0 0), (.int 0 0), (.ref 46), (.bool false), (.int 181 0), (.ref 47), .none, .none, .none, .none, (.int 234 0), (.int 13 0), (.str "/claim/cut.py" 235)]), #[]⟩),
  (49, ⟨.type "frame", none, .plain, #[(some (.ref 48)), (some (.ref 3)), (some (.ref 45)), none, (some (.str "pyfatfs.DosDateTime" 194)), none, (some (.ref 0))]⟩),
  (52, ⟨.none, none, (.fields #[]), #[]⟩),
  (55, ⟨.none, none, (.func (fnQ (pk [3, 0]) "DosDateTime.__init__" 0 [] .none .none .none .none none .none .none 0)), #[]⟩),
  (59, ⟨.none, none, (.fields #[]), #[]⟩),
  (62, ⟨.none, none, (.func (fnQ (pk [3, 1]) "DosDateTime.combine" 0 [] .none .none .none .none none .none .none 0)), #[]⟩),
  (69, ⟨.none, none, (.fields #[]), #[]⟩),
  (72, ⟨.none, none, (.func (fnQ (pk [3, 2]) "DosDateTime.serialize_date" 0 [] .none .none .none .none none .none .none 0)), #[]⟩),
  (76, ⟨.none, none, (.fields #[]), #[]⟩),
  (79, ⟨.none, none, (.func (fnQ (pk [3, 3]) "DosDateTime.serialize_time" 0 [] .none .none .none .none none .none .none 0)), #[]⟩),
  (83, ⟨.none, none, (.fields #[]), #[]⟩),
  (86, ⟨.none, none, (.func (fnQ (pk [3, 4]) "DosDateTime.deserialize_date" 0 [] .none .none .none .none none .none .none 0)), #[]⟩),
  (93, ⟨.none, none, (.fields #[]), #[]⟩),
  (96, ⟨.none, none, (.func (fnQ (pk [3, 5]) "DosDateTime.deserialize_time" 0 [] .none .none .none .none none .none .none 0)), #[]⟩),
  (107, ⟨.type "super", none, (.fields #[(.ref 104), (.ref 104), (.ref 104)]), #[]⟩),
  (108, ⟨.type "builtin_function_or_method", none, (.fields #[(.builtin "object.__init_subclass__"), (.ref 104)]), #[]⟩),
  (110, ⟨.type "builtin_function_or_method", none, (.fields #[(.builtin "type.__prepare__"), (.type "type")]), #[]⟩),
  (111, ⟨.type "dict", none, (.dict #[⟨PyData.keyHash P "__module__", .str "__module__" 362, .str "pyfatfs._exceptions" 353⟩, ⟨PyData.keyHash P "__qualname__", .str "__qualname__" 364, .str "PyFATException" 363⟩, ⟨PyData.keyHash P "__firstlineno__", .str "__firstlineno__" 366, .int 64 365⟩, ⟨PyData.keyHash P "__init__", .str "__init__" 376, .ref 125⟩, ⟨PyData.keyHash P "__static_attributes__", .str "__static_attributes__" 378, .ref 126⟩, ⟨PyData.keyHash P "__classcell__", .str "__classcell__" 379, .ref 112⟩] 6), #[]⟩),
  (113, ⟨.type "tuple", none, (.seq #[] 0), #[]⟩),
  (114, ⟨.none, none, (.fields #[(.int 66 0), (.int 4 0), (.ref 124)]), #[]⟩),
  (115, ⟨.type "code", none, (.fields #[(.str "PyFATException" 357), (.str "PyFATException" 358), (.str "/claim/cut.py" 359), (.int 64 0), (.int 0 0), (.int 0 0), (.int 0 0), (.int 0 0), (.ref 113), (.bool false), (.int 181 0), (.ref 114), .none, .none, .none, .none, (.int 360 0), (.int 64 0), (.str "/claim/cut.py" 361)]), #[]⟩),
  (116, ⟨.type "frame", none, .plain, #[(some (.ref 115)), (some (.ref 3)), (some (.ref 111)), none, (some (.str "pyfatfs._exceptions" 353)), none, (some (.ref 0))]⟩),
  (120, ⟨.none, none, (.fields #[]), #[]⟩),
  (123, ⟨.none, none, (.func (fnQ (pk [5, 0]) "PyFATException.__init__" 0 [] .none .none .none .none none .none .none 0)), #[]⟩),
  (130, ⟨.type "super", none, (.fields #[(.ref 128), (.ref 128), (.ref 128)]), #[]⟩),
  (131, ⟨.type "builtin_function_or_method", none, (.fields #[(.builtin "object.__init_subclass__"), (.ref 128)]), #[]⟩),
  (133, ⟨.type "builtin_function_or_method", none, (.fields #[(.builtin "type.__prepare__"), (.type "type")]), #[]⟩),
  (134, ⟨.type "dict", none, (.dict #[⟨PyData.keyHash P "__module__", .str "__module__" 394, .str "pyfatfs._exceptions" 353⟩, ⟨PyData.keyHash P "__qualname__", .str "__qualname__" 396, .str "BrokenLFNEntryException" 395⟩, ⟨PyData.keyHash P "__firstlineno__", .str "__firstlineno__" 398, .int 69 397⟩, ⟨PyData.keyHash P "__static_attributes__", .str "__static_attributes__" 399, .ref 139⟩] 4), #[]⟩),
  (135, ⟨.type "tuple", none, (.seq #[] 0), #[]⟩),
  (136, ⟨.none, none, (.fields #[]), #[]⟩),
  (137, ⟨.type "code", none, (.fields #[(.str "BrokenLFNEntryException" 389), (.str "BrokenLFNEntryException" 390), (.str "/claim/cut.py" 391), (.int 69 0), (.int 0 0), (.int 0 0), (.int 0 0), (.int 0 0), (.ref 135), (.bool false), (.int 181 0), (.ref 136), .none, .none, .none, .none, (.int 392 0), (.int 69 0), (.str "/claim/cut.py" 393)]), #[]⟩),
  (138, ⟨.type "frame", none, .plain, #[(some (.ref 137)), (some (.ref 3)), (some (.ref 134)), none, (some (.str "pyfatfs._exceptions" 353)), none, (some (.ref 0))]⟩),
  (142, ⟨.type "super", none, (.fields #[(.ref 141), (.ref 141), (.ref 141)]), #[]⟩),
  (143, ⟨.type "builtin_function_or_method", none, (.fields #[(.builtin "object.__init_subclass__"), (.ref 141)]), #[]⟩),
  (144, ⟨.type "tuple", none, (.seq #[] 0), #[]⟩),
  (145, ⟨.type "builtin_function_or_method", none, (.fields #[(.builtin "type.__prepare__"), (.type "type")]), #[]⟩),
  (146, ⟨.type "dict", none, (.dict #[⟨PyData.keyHash P "__module__", .str "__module__" 410, .str "pyfatfs._exceptions" 353⟩, ⟨PyData.keyHash P "__qualname__", .str "__qualname__" 412, .str "errno" 411⟩, ⟨PyData.keyHash P "__firstlineno__", .str "__firstlineno__" 414, .int 71 413⟩, ⟨PyData.keyHash P "ENOENT", .str "ENOENT" 416, .int 2 415⟩, ⟨PyData.keyHash P "ENXIO", .str "ENXIO" 418, .int 6 417⟩, ⟨PyData.keyHash P "E2BIG", .str "E2BIG" 420, .int 7 419⟩, ⟨PyData.keyHash P "EFAULT", .str "EFAULT" 422, .int 14 421⟩, ⟨PyData.keyHash P "EEXIST", .str "EEXIST" 424, .int 17 423⟩, ⟨PyData.keyHash P "ENOTDIR", .str "ENOTDIR" 426, .int 20 425⟩, ⟨PyData.keyHash P "EISDIR", .str "EISDIR" 428, .int 21 427⟩, ⟨PyData.keyHash P "EINVAL", .str "EINVAL" 430, .int 22 429⟩, ⟨PyData.keyHash P "EMFILE", .str "EMFILE" 432, .int 24 431⟩, ⟨PyData.keyHash P "EACCES", .str "EACCES" 434, .int 13 433⟩, ⟨PyData.keyHash P "ENOSPC", .str "ENOSPC" 436, .int 28 435⟩, ⟨PyData.keyHash P "EROFS", .str "EROFS" 438, .int 30 437⟩, ⟨PyData.keyHash P "ENAMETOOLONG", .str "ENAMETOOLONG" 440, .int 36 439⟩, ⟨PyData.keyHash P "EBADE", .str "EBADE" 442, .int 52 441⟩, ⟨PyData.keyHash P "ETOOMANYREFS", .str "ETOOMANYREFS" 444, .int 109 443⟩, ⟨PyData.keyHash P "__static_attributes__", .str "__static_attributes__" 445, .ref 151⟩] 19), #[]⟩),
  (147, ⟨.type "tuple", none, (.seq #[] 0), #[]⟩),
  (148, ⟨.none, none, (.fields #[]), #[]⟩),
  (149, ⟨.type "code", none, (.fields #[(.str "errno" 405), (.str "errno" 406), (.str "/claim/cut.py" 407), (.int 71 0), (.int 0 0), (.int 0 0), (.int 0 0), (.int 0 0), (.ref 147), (.bool false), (.int 181 0), (.ref 148), .none, .none, .none, .none, (.int 408 0), (.int 71 0), (.str "/claim/cut.py" 409)]), #[]⟩),
  (150, ⟨.type "frame", none, .plain, #[(some (.ref 149)), (some (.ref 3)), (some (.ref 146)), none, (some (.str "pyfatfs._exceptions" 353)), none, (some (.ref 0))]⟩),
  (156, ⟨.type "super", none, (.fields #[(.ref 153), (.ref 153), (.ref 153)]), #[]⟩),
  (157, ⟨.type "builtin_function_or_method", none, (.fields #[(.builtin "object.__init_subclass__"), (.ref 153)]), #[]⟩),
  (159, ⟨.none, none, (.fields #[]), #[]⟩),
  (160, ⟨.none, none, (.func (fnQ (pk [9]) "encoded" 0 [] .none .none .none .none none .none .none 0)), #[]⟩),
  (164, ⟨.none, none, (.fields #[]), #[]⟩),
  (165, ⟨.none, none, (.func (fnQ (pk [10]) "decoded" 0 [] .none .none .none .none none .none .none 0)), #[]⟩),
  (169, ⟨.none, none, (.fields #[]), #[]⟩),
  (170, ⟨.none, none, (.func (fnQ (pk [11]) "decoded16" 0 [] .none .none .none .none none .none .none 0)), #[]⟩),
  (174, ⟨.none, none, (.fields #[]), #[]⟩),
  (177, ⟨.none, none, (.func (fnQ (pk [12]) "splitext" 0 [] .none .none .none .none none .none .none 0)), #[]⟩),
  (181, ⟨.none, none, (.fields #[]), #[]⟩),
  (184, ⟨.none, none, (.func (fnQ (pk [13]) "init_check" 0 [] .none .none .none .none none .none .none 0)), #[]⟩),
  (187, ⟨.type "tuple", none, (.seq #[] 0), #[]⟩),
  (188, ⟨.type "builtin_function_or_method", none, (.fields #[(.builtin "type.__prepare__"), (.type "type")]), #[]⟩),
  (189, ⟨.type "dict", none, (.dict #[⟨PyData.keyHash P "__module__", .str "__module__" 499, .str "pyfatfs.EightDotThree" 490⟩, ⟨PyData.keyHash P "__qualname__", .str "__qualname__" 501, .str "EightDotThree" 500⟩, ⟨PyData.keyHash P "__firstlineno__", .str "__firstlineno__" 503, .int 119 502⟩, ⟨PyData.keyHash P "SFN_LENGTH", .str "SFN_LENGTH" 505, .int 11 504⟩, ⟨PyData.keyHash P "INVALID_CHARACTERS", .str "INVALID_CHARACTERS" 522, .ref 194⟩, ⟨PyData.keyHash P "__init__", .str "__init__" 530, .ref 202⟩, ⟨PyData.keyHash P "as_text", .str "as_text" 541, .ref 209⟩, ⟨PyData.keyHash P "as_bytes", .str "as_bytes" 548, .ref 216⟩, ⟨PyData.keyHash P "get_unpadded_filename", .str "get_unpadded_filename" 555, .ref 223⟩, ⟨PyData.keyHash P "_raise_8dot3_nonconformant", .str "_raise_8dot3_nonconformant" 574, .ref 232⟩, ⟨PyData.keyHash P "_set_name", .str "_set_name" 582, .ref 240⟩, ⟨PyData.keyHash P "set_byte_name", .str "set_byte_name" 590, .ref 247⟩, ⟨PyData.keyHash P "set_str_name", .str "set_str_name" 598, .ref 254⟩, ⟨PyData.keyHash P "checksum", .str "checksum" 607, .ref 261⟩, ⟨PyData.keyHash P "_check_characters", .str "_check_characters" 628, .ref 270⟩, ⟨PyData.keyHash P "is_8dot3_conform", .str "is_8dot3_conform" 651, .ref 281⟩, ⟨PyData.keyHash P "_pad_8dot3_name", .str "_pad_8dot3_name" 672, .ref 291⟩, ⟨PyData.keyHash P "make_8dot3_name", .str "make_8dot3_name" 692, .ref 301⟩, ⟨PyData.keyHash P "__static_attributes__", .str "__static_attributes__" 696, .ref 303⟩] 19), #[]⟩),
  (190, ⟨.type "tuple", none, (.seq #[] 0), #[]⟩),
  (191, ⟨.none, none, (.fields #[(.int 123 0), (.int 4 0), (.ref 201), (.int 128 0), (.int 4 0), (.ref 208), (.int 137 0), (.int 4 0), (.ref 215), (.int 140 0), (.int 4 0), (.ref 222), (.int 145 0), (.int 4 0), (.ref 229), (.int 148 0), (.int 4 0), (.ref 239), (.int 151 0), (.int 4 0), (.ref 246), (.int 154 0), (.int 4 0), (.ref 253), (.int 165 0), (.int 4 0), (.ref 260), (.int 174 0), (.int 4 0), (.ref 267), (.int 180 0), (.int 4 0), (.ref 278), (.int 197 0), (.int 4 0), (.ref 288), (.int 204 0), (.int 4 0), (.ref 298)]), #[]⟩),
  (192, ⟨.type "code", none, (.fields #[(.str "EightDotThree" 494), (.str "EightDotThree" 495), (.str "/claim/cut.py" 496), (.int 119 0), (.int 0 0), (.int 0 0), (.int 0 0), (.int 0 0), (.ref 190), (.bool false), (.int 181 0), (.ref 191), .none, .none, .none, .none, (.int 497 0), (.int 119 0), (.str "/claim/cut.py" 498)]), #[]⟩),
  (193, ⟨.type "frame", none, .plain, #[(some (.ref 192)), (some (.ref 3)), (some (.ref 189)), none, (some (.str "pyfatfs.EightDotThree" 490)), none, (some (.ref 0))]⟩),
  (197, ⟨.none, none, (.fields #[]), #[]⟩),
  (200, ⟨.none, none, (.func (fnQ (pk [15, 2]) "EightDotThree.__init__" 0 [] .none .none .none .none none .none .none 0)), #[]⟩),
  (204, ⟨.none, none, (.fields #[]), #[]⟩),
  (207, ⟨.none, none, (.func (fnQ (pk [15, 3]) "EightDotThree.as_text" 0 [] .none .none .none .none none .none .none 0)), #[]⟩),
  (211, ⟨.none, none, (.fields #[]), #[]⟩),
  (214, ⟨.none, none, (.func (fnQ (pk [15, 4]) "EightDotThree.as_bytes" 0 [] .none .none .none .none none .none .none 0)), #[]⟩),
  (218, ⟨.none, none, (.fields #[]), #[]⟩),
  (221, ⟨.none, none, (.func (fnQ (pk [15, 5]) "EightDotThree.get_unpadded_filename" 0 [] .none .none .none .none none .none .none 0)), #[]⟩),
  (225, ⟨.none, none, (.fields #[]), #[]⟩),
  (228, ⟨.none, none, (.func (fnQ (pk [15, 6]) "EightDotThree._raise_8dot3_nonconformant" 0 [] .none .none .none .none none .none .none 0)), #[]⟩),
  (235, ⟨.none, none, (.fields #[]), #[]⟩),
  (238, ⟨.none, none, (.func (fnQ (pk [15, 7]) "EightDotThree._set_name" 0 [] .none .none .none .none none .none .none 0)), #[]⟩),
  (242, ⟨.none, none, (.fields #[]), #[]⟩),
  (245, ⟨.none, none, (.func (fnQ (pk [15, 8]) "EightDotThree.set_byte_name" 0 [] .none .none .none .none none .none .none 0)), #[]⟩),
  (249, ⟨.none, none, (.fields #[]), #[]⟩),
  (252, ⟨.none, none, (.func (fnQ (pk [15, 9]) "EightDotThree.set_str_name" 0 [] .none .none .none .none none .none .none 0)), #[]⟩),
  (256, ⟨.none, none, (.fields #[]), #[]⟩),
  (259, ⟨.none, none, (.func (fnQ (pk [15, 10]) "EightDotThree.checksum" 0 [] .none .none .none .none none .none .none 0)), #[]⟩),
  (263, ⟨.none, none, (.fields #[]), #[]⟩),
  (266, ⟨.none, none, (.func (fnQ (pk [15, 11]) "EightDotThree._check_characters" 0 [] .none .none .none .none none .none .none 0)), #[]⟩),
  (274, ⟨.none, none, (.fields #[]), #[]⟩),
  (277, ⟨.none, none, (.func (fnQ (pk [15, 12]) "EightDotThree.is_8dot3_conform" 0 [] .none .none .none .none none .none .none 0)), #[]⟩),
  (284, ⟨.none, none, (.fields #[]), #[]⟩),
  (287, ⟨.none, none, (.func (fnQ (pk [15, 13]) "EightDotThree._pad_8dot3_name" 0 [] .none .none .none .none none .none .none 0)), #[]⟩),
  (294, ⟨.none, none, (.fields #[]), #[]⟩),
  (297, ⟨.none, none, (.func (fnQ (pk [15, 14]) "EightDotThree.make_8dot3_name" 0 [] .none .none .none .none none .none .none 0)), #[]⟩),
  (308, ⟨.type "super", none, (.fields #[(.ref 305), (.ref 305), (.ref 305)]), #[]⟩),
  (309, ⟨.type "builtin_function_or_method", none, (.fields #[(.builtin "object.__init_subclass__"), (.ref 305)]), #[]⟩),
  (310, ⟨.type "tuple", none, (.seq #[] 0), #[]⟩),
  (311, ⟨.type "builtin_function_or_method", none, (.fields #[(.builtin "type.__prepare__"), (.type "type")]), #[]⟩),
  (312, ⟨.type "dict", none, (.dict #[⟨PyData.keyHash P "__module__", .str "__module__" 713, .str "pyfatfs.FATDirectoryEntry" 704⟩, ⟨PyData.keyHash P "__qualname__", .str "__qualname__" 715, .str "FATDirectoryEntry" 714⟩, ⟨PyData.keyHash P "__firstlineno__", .str "__firstlineno__" 717, .int 207 716⟩, ⟨PyData.keyHash P "FREE_DIR_ENTRY_MARK", .str "FREE_DIR_ENTRY_MARK" 719, .int 229 718⟩, ⟨PyData.keyHash P "LAST_DIR_ENTRY_MARK", .str "LAST_DIR_ENTRY_MARK" 721, .int 0 720⟩, ⟨PyData.keyHash P "ATTR_READ_ONLY", .str "ATTR_READ_ONLY" 723, .int 1 722⟩, ⟨PyData.keyHash P "ATTR_HIDDEN", .str "ATTR_HIDDEN" 725, .int 2 724⟩, ⟨PyData.keyHash P "ATTR_SYSTEM", .str "ATTR_SYSTEM" 727, .int 4 726⟩, ⟨PyData.keyHash P "ATTR_VOLUME_ID", .str "ATTR_VOLUME_ID" 729, .int 8 728⟩, ⟨PyData.keyHash P "ATTR_DIRECTORY", .str "ATTR_DIRECTORY" 731, .int 16 730⟩, ⟨PyData.keyHash P "ATTR_ARCHIVE", .str "ATTR_ARCHIVE" 733, .int 32 732⟩, ⟨PyData.keyHash P "ATTR_LONG_NAME", .str "ATTR_LONG_NAME" 735, .int 15 734⟩, ⟨PyData.keyHash P "ATTR_LONG_NAME_MASK", .str "ATTR_LONG_NAME_MASK" 737, .int 63 736⟩, ⟨PyData.keyHash P "FAT_DIRECTORY_HEADER_SIZE", .str "FAT_DIRECTORY_HEADER_SIZE" 739, .int 32 738⟩, ⟨PyData.keyHash P "MAX_FILE_SIZE", .str "MAX_FILE_SIZE" 741, .int 4294967295 740⟩, ⟨PyData.keyHash P "FAT_DIRECTORY_VARS", .str "FAT_DIRECTORY_VARS" 754, .ref 317⟩, ⟨PyData.keyHash P "__init__", .str "__init__" 777, .ref 325⟩, ⟨PyData.keyHash P "set_size", .str "set_size" 785, .ref 332⟩, ⟨PyData.keyHash P "new", .str "new" 816, .ref 342⟩, ⟨PyData.keyHash P "get_ctime", .str "get_ctime" 823, .ref 350⟩, ⟨PyData.keyHash P "get_mtime", .str "get_mtime" 830, .ref 357⟩, ⟨PyData.keyHash P "get_atime", .str "get_atime" 837, .ref 364⟩, ⟨PyData.keyHash P "_combine_dosdatetime", .str "_combine_dosdatetime" 857, .ref 373⟩, ⟨PyData.keyHash P "get_checksum", .str "get_checksum" 864, .ref 381⟩, ⟨PyData.keyHash P "set_lfn_entry", .str "set_lfn_entry" 875, .ref 388⟩, ⟨PyData.keyHash P "get_entry_size", .str "get_entry_size" 882, .ref 395⟩, ⟨PyData.keyHash P "get_cluster", .str "get_cluster" 889, .ref 402⟩, ⟨PyData.keyHash P "set_cluster", .str "set_cluster" 897, .ref 409⟩, ⟨PyData.keyHash P "as_bytes", .str "as_bytes" 904, .ref 416⟩, ⟨PyData.keyHash P "_add_parent", .str "_add_parent" 912, .ref 423⟩, ⟨PyData.keyHash P "_get_parent_dir", .str "_get_parent_dir" 920, .ref 430⟩, ⟨PyData.keyHash P "get_full_path", .str "get_full_path" 927, .ref 437⟩, ⟨PyData.keyHash P "get_parent_dir", .str "get_parent_dir" 934, .ref 444⟩, ⟨PyData.keyHash P "is_special", .str "is_special" 941, .ref 451⟩, ⟨PyData.keyHash P "is_read_only", .str "is_read_only" 948, .ref 458⟩, ⟨PyData.keyHash P "is_hidden", .str "is_hidden" 955, .ref 465⟩, ⟨PyData.keyHash P "is_system", .str "is_system" 962, .ref 472⟩, ⟨PyData.keyHash P "is_volume_id", .str "is_volume_id" 969, .ref 479⟩, ⟨PyData.keyHash P "_verify_is_directory", .str "_verify_is_directory" 976, .ref 486⟩, ⟨PyData.keyHash P "is_directory", .str "is_directory" 983, .ref 493⟩, ⟨PyData.keyHash P "is_archive", .str "is_archive" 990, .ref 500⟩, ⟨PyData.keyHash P "is_empty", .str "is_empty" 997, .ref 507⟩, ⟨PyData.keyHash P "_populate_dirs", .str "_populate_dirs" 1006, .ref 514⟩, ⟨PyData.keyHash P "_get_entries_raw", .str "_get_entries_raw" 1013, .ref 521⟩, ⟨PyData.keyHash P "get_entries", .str "get_entries" 1024, .ref 528⟩, ⟨PyData.keyHash P "_search_entry", .str "_search_entry" 1032, .ref 535⟩, ⟨PyData.keyHash P "get_entry", .str "get_entry" 1040, .ref 542⟩, ⟨PyData.keyHash P "walk", .str "walk" 1047, .ref 549⟩, ⟨PyData.keyHash P "add_subdirectory", .str "add_subdirectory" 1056, .ref 557⟩, ⟨PyData.keyHash P "mark_empty", .str "mark_empty" 1063, .ref 564⟩, ⟨PyData.keyHash P "remove_dir_entry", .str "remove_dir_entry" 1071, .ref 571⟩, ⟨PyData.keyHash P "as_name", .str "as_name" 1078, .ref 578⟩, ⟨PyData.keyHash P "get_short_name", .str "get_short_name" 1085, .ref 585⟩, ⟨PyData.keyHash P "get_long_name", .str "get_long_name" 1092, .ref 592⟩, ⟨PyData.keyHash P "__static_attributes__", .str "__static_attributes__" 1111, .ref 593⟩] 55), #[]⟩),
  (313, ⟨.type "tuple", none, (.seq #[] 0), #[]⟩),
  (314, ⟨.none, none, (.fields (List.toArray ((.int 222 0) :: (.int 4 0) :: (.ref 324) :: (.int 246 0) :: (.int 4 0) :: (.ref 331) :: (.int 252 0) :: (.int 4 0) :: (.ref 339) :: (.int 258 0) :: (.int 4 0) :: (.ref 349) :: (.int 261 0) :: (.int 4 0) :: (.ref 356) :: (.int 264 0) :: (.int 4 0) :: (.ref 363) :: (.int 268 0) :: (.int 4 0) :: (.ref 370) :: (.int 272 0) :: (.int 4 0) :: (.ref 380) :: (.int 275 0) :: (.int 4 0) :: (.ref 387) :: (.int 285 0) :: (.int 4 0) :: (.ref 394) :: (.int 288 0) :: (.int 4 0) :: (.ref 401) :: (.int 291 0) :: (.int 4 0) :: (.ref 408) :: (.int 295 0) :: (.int 4 0) :: (.ref 415) :: (.int 298 0) :: (.int 4 0) :: (.ref 422) :: (.int 305 0) :: (.int 4 0) :: (.ref 429) :: (.int 308 0) :: (.int 4 0) :: (.ref 436) :: (.int 311 0) :: (.int 4 0) :: (.ref 443) :: (.int 314 0) :: (.int 4 0) :: (.ref 450) :: (.int 317 0) :: (.int 4 0) :: (.ref 457) :: (.int 320 0) :: (.int 4 0) :: (.ref 464) :: (.int 323 0) :: (.int 4 0) :: (.ref 471) :: (.int 326 0) :: (.int 4 0) :: (.ref 478) :: (.int 329 0) :: (.int 4 0) :: (.ref 485) :: (.int 333 0) :: (.int 4 0) :: (.ref 492) :: (.int 336 0) :: (.int 4 0) :: (.ref 499) :: (.int 339 0) :: (.int 4 0) :: (.ref 506) :: (.int 342 0) :: (.int 4 0) :: (.ref 513) :: (.int 351 0) :: (.int 4 0) :: (.ref 520) :: (.int 356 0) :: (.int 4 0) :: (.ref 527) :: (.int 369 0) :: (.int 4 0) :: (.ref 534) :: (.int 372 0) :: (.int 4 0) :: (.ref 541) :: (.int 375 0) :: (.int 4 0) :: (.ref 548) :: (.int 378 0) :: (.int 4 0) :: (.ref 556) :: (.int 381 0) :: (.int 4 0) :: (.ref 563) :: (.int 384 0) :: (.int 4 0) :: (.ref 570) :: (.int 387 0) :: (.int 4 0) :: (.ref 577) :: (.int 390 0) :: (.int 4 0) :: (.ref 584) :: (.int 393 0) :: (.int 4 0) :: (.ref 591) :: []))), #[]⟩),
  (315, ⟨.type "code", none, (.fields #[(.str "FATDirectoryEntry" 708), (.str "FATDirectoryEntry" 709), (.str "/claim/cut.py" 710), (.int 207 0), (.int 0 0), (.int 0 0), (.int 0 0), (.int 0 0), (.ref 313), (.bool false), (.int 181 0), (.ref 314), .none, .none, .none, .none, (.int 711 0), (.int 207 0), (.str "/claim/cut.py" 712)]), #[]⟩),
  (316, ⟨.type "frame", none, .plain, #[(some (.ref 315)), (some (.ref 3)), (some (.ref 312)), none, (some (.str "pyfatfs.FATDirectoryEntry" 704)), none, (some (.ref 0))]⟩),
  (320, ⟨.none, none, (.fields #[]), #[]⟩),
  (323, ⟨.none, none, (.func (fnQ (pk [17, 13]) "FATDirectoryEntry.__init__" 0 [] .none .none .none .none none .none .none 0)), #[]⟩),
  (327, ⟨.none, none, (.fields #[]), #[]⟩),
  (330, ⟨.none, none, (.func (fnQ (pk [17, 14]) "FATDirectoryEntry.set_size" 0 [] .none .none .none .none none .none .none 0)), #[]⟩),
  (335, ⟨.none, none, (.fields #[]), #[]⟩),
  (338, ⟨.none, none, (.func (fnQ (pk [17, 15]) "FATDirectoryEntry.new" 0 [] .none .none .none .none none .none .none 0)), #[]⟩),
  (345, ⟨.none, none, (.fields #[]), #[]⟩),
  (348, ⟨.none, none, (.func (fnQ (pk [17, 16]) "FATDirectoryEntry.get_ctime" 0 [] .none .none .none .none none .none .none 0)), #[]⟩),
  (352, ⟨.none, none, (.fields #[]), #[]⟩),
  (355, ⟨.none, none, (.func (fnQ (pk [17, 17]) "FATDirectoryEntry.get_mtime" 0 [] .none .none .none .none none .none .none 0)), #[]⟩),
  (359, ⟨.none, none, (.fields #[]), #[]⟩),
  (362, ⟨.none, none, (.func (fnQ (pk [17, 18]) "FATDirectoryEntry.get_atime" 0 [] .none .none .none .none none .none .none 0)), #[]⟩),
  (366, ⟨.none, none, (.fields #[]), #[]⟩),
  (369, ⟨.none, none, (.func (fnQ (pk [17, 19]) "FATDirectoryEntry._combine_dosdatetime" 0 [] .none .none .none .none none .none .none 0)), #[]⟩),
  (376, ⟨.none, none, (.fields #[]), #[]⟩),
  (379, ⟨.none, none, (.func (fnQ (pk [17, 20]) "FATDirectoryEntry.get_checksum" 0 [] .none .none .none .none none .none .none 0)), #[]⟩),
  (383, ⟨.none, none, (.fields #[]), #[]⟩),
  (386, ⟨.none, none, (.func (fnQ (pk [17, 21]) "FATDirectoryEntry.set_lfn_entry" 0 [] .none .none .none .none none .none .none 0)), #[]⟩),
  (390, ⟨.none, none, (.fields #[]), #[]⟩),
  (393, ⟨.none, none, (.func (fnQ (pk [17, 22]) "FATDirectoryEntry.get_entry_size" 0 [] .none .none .none .none none .none .none 0)), #[]⟩),
  (397, ⟨.none, none, (.fields #[]), #[]⟩),
  (400, ⟨.none, none, (.func (fnQ (pk [17, 23]) "FATDirectoryEntry.get_cluster" 0 [] .none .none .none .none none .none .none 0)), #[]⟩),
  (404, ⟨.none, none, (.fields #[]), #[]⟩),
  (407, ⟨.none, none, (.func (fnQ (pk [17, 24]) "FATDirectoryEntry.set_cluster" 0 [] .none .none .none .none none .none .none 0)), #[]⟩),
  (411, ⟨.none, none, (.fields #[]), #[]⟩),
  (414, ⟨.none, none, (.func (fnQ (pk [17, 25]) "FATDirectoryEntry.as_bytes" 0 [] .none .none .none .none none .none .none 0)), #[]⟩),
  (418, ⟨.none, none, (.fields #[]), #[]⟩),
  (421, ⟨.none, none, (.func (fnQ (pk [17, 26]) "FATDirectoryEntry._add_parent" 0 [] .none .none .none .none none .none .none 0)), #[]⟩),
  (425, ⟨.none, none, (.fields #[]), #[]⟩),
  (428, ⟨.none, none, (.func (fnQ (pk [17, 27]) "FATDirectoryEntry._get_parent_dir" 0 [] .none .none .none .none none .none .none 0)), #[]⟩),
  (432, ⟨.none, none, (.fields #[]), #[]⟩),
  (435, ⟨.none, none, (.func (fnQ (pk [17, 28]) "FATDirectoryEntry.get_full_path" 0 [] .none .none .none .none none .none .none 0)), #[]⟩),
  (439, ⟨.none, none, (.fields #[]), #[]⟩),
  (442, ⟨.none, none, (.func (fnQ (pk [17, 29]) "FATDirectoryEntry.get_parent_dir" 0 [] .none .none .none .none none .none .none 0)), #[]⟩),
  (446, ⟨.none, none, (.fields #[]), #[]⟩),
  (449, ⟨.none, none, (.func (fnQ (pk [17, 30]) "FATDirectoryEntry.is_special" 0 [] .none .none .none .none none .none .none 0)), #[]⟩),
  (453, ⟨.none, none, (.fields #[]), #[]⟩),
  (456, ⟨.none, none, (.func (fnQ (pk [17, 31]) "FATDirectoryEntry.is_read_only" 0 [] .none .none .none .none none .none .none 0)), #[]⟩),
  (460, ⟨.none, none, (.fields #[]), #[]⟩),
  (463, ⟨.none, none, (.func (fnQ (pk [17, 32]) "FATDirectoryEntry.is_hidden" 0 [] .none .none .none .none none .none .none 0)), #[]⟩),
  (467, ⟨.none, none, (.fields #[]), #[]⟩),
  (470, ⟨.none, none, (.func (fnQ (pk [17, 33]) "FATDirectoryEntry.is_system" 0 [] .none .none .none .none none .none .none 0)), #[]⟩),
  (474, ⟨.none, none, (.fields #[]), #[]⟩),
  (477, ⟨.none, none, (.func (fnQ (pk [17, 34]) "FATDirectoryEntry.is_volume_id" 0 [] .none .none .none .none none .none .none 0)), #[]⟩),
  (481, ⟨.none, none, (.fields #[]), #[]⟩),
  (484, ⟨.none, none, (.func (fnQ (pk [17, 35]) "FATDirectoryEntry._verify_is_directory" 0 [] .none .none .none .none none .none .none 0)), #[]⟩),
  (488, ⟨.none, none, (.fields #[]), #[]⟩),
  (491, ⟨.none, none, (.func (fnQ (pk [17, 36]) "FATDirectoryEntry.is_directory" 0 [] .none .none .none .none none .none .none 0)), #[]⟩),
  (495, ⟨.none, none, (.fields #[]), #[]⟩),
  (498, ⟨.none, none, (.func (fnQ (pk [17, 37]) "FATDirectoryEntry.is_archive" 0 [] .none .none .none .none none .none .none 0)), #[]⟩),
  (502, ⟨.none, none, (.fields #[]), #[]⟩),
  (505, ⟨.none, none, (.func (fnQ (pk [17, 38]) "FATDirectoryEntry.is_empty" 0 [] .none .none .none .none none .none .none 0)), #[]⟩),
  (509, ⟨.none, none, (.fields #[]), #[]⟩),
  (512, ⟨.none, none, (.func (fnQ (pk [17, 39]) "FATDirectoryEntry._populate_dirs" 0 [] .none .none .none .none none .none .none 0)), #[]⟩),
  (516, ⟨.none, none, (.fields #[]), #[]⟩),
  (519, ⟨.none, none, (.func (fnQ (pk [17, 40]) "FATDirectoryEntry._get_entries_raw" 0 [] .none .none .none .none none .none .none 0)), #[]⟩),
  (523, ⟨.none, none, (.fields #[]), #[]⟩),
  (526, ⟨.none, none, (.func (fnQ (pk [17, 41]) "FATDirectoryEntry.get_entries" 0 [] .none .none .none .none none .none .none 0)), #[]⟩),
  (530, ⟨.none, none, (.fields #[]), #[]⟩),
  (533, ⟨.none, none, (.func (fnQ (pk [17, 42]) "FATDirectoryEntry._search_entry" 0 [] .none .none .none .none none .none .none 0)), #[]⟩),
  (537, ⟨.none, none, (.fields #[]), #[]⟩),
  (540, ⟨.none, none, (.func (fnQ (pk [17, 43]) "FATDirectoryEntry.get_entry" 0 [] .none .none .none .none none .none .none 0)), #[]⟩),
  (544, ⟨.none, none, (.fields #[]), #[]⟩),
  (547, ⟨.none, none, (.func (fnQ (pk [17, 44]) "FATDirectoryEntry.walk" 0 [] .none .none .none .none none .none .none 0)), #[]⟩),
  (552, ⟨.none, none, (.fields #[]), #[]⟩),
  (555, ⟨.none, none, (.func (fnQ (pk [17, 45]) "FATDirectoryEntry.add_subdirectory" 0 [] .none .none .none .none none .none .none 0)), #[]⟩),
  (559, ⟨.none, none, (.fields #[]), #[]⟩),
  (562, ⟨.none, none, (.func (fnQ (pk [17, 46]) "FATDirectoryEntry.mark_empty" 0 [] .none .none .none .none none .none .none 0)), #[]⟩),
  (566, ⟨.none, none, (.fields #[]), #[]⟩),
  (569, ⟨.none, none, (.func (fnQ (pk [17, 47]) "FATDirectoryEntry.remove_dir_entry" 0 [] .none .none .none .none none .none .none 0)), #[]⟩),
  (573, ⟨.none, none, (.fields #[]), #[]⟩),
  (576, ⟨.none, none, (.func (fnQ (pk [17, 48]) "FATDirectoryEntry.as_name" 0 [] .none .none .none .none none .none .none 0)), #[]⟩),
  (580, ⟨.none, none, (.fields #[]), #[]⟩),
  (583, ⟨.none, none, (.func (fnQ (pk [17, 49]) "FATDirectoryEntry.get_short_name" 0 [] .none .none .none .none none .none .none 0)), #[]⟩),
  (587, ⟨.none, none, (.fields #[]), #[]⟩),
  (590, ⟨.none, none, (.func (fnQ (pk [17, 50]) "FATDirectoryEntry.get_long_name" 0 [] .none .none .none .none none .none .none 0)), #[]⟩),
  (598, ⟨.type "super", none, (.fields #[(.ref 595), (.ref 595), (.ref 595)]), #[]⟩),
  (599, ⟨.type "builtin_function_or_method", none, (.fields #[(.builtin "object.__init_subclass__"), (.ref 595)]), #[]⟩),
  (601, ⟨.type "builtin_function_or_method", none, (.fields #[(.builtin "type.__prepare__"), (.type "type")]), #[]⟩),
  (602, ⟨.type "dict", none, (.dict #[⟨PyData.keyHash P "__module__", .str "__module__" 1126, .str "pyfatfs.FATDirectoryEntry" 704⟩, ⟨PyData.keyHash P "__qualname__", .str "__qualname__" 1128, .str "FATLongDirectoryEntry" 1127⟩, ⟨PyData.keyHash P "__firstlineno__", .str "__firstlineno__" 1130, .int 395 1129⟩, ⟨PyData.keyHash P "FAT_LONG_DIRECTORY_VARS", .str "FAT_LONG_DIRECTORY_VARS" 1139, .ref 607⟩, ⟨PyData.keyHash P "LAST_LONG_ENTRY", .str "LAST_LONG_ENTRY" 1141, .int 64 1140⟩, ⟨PyData.keyHash P "LFN_ENTRY_LENGTH", .str "LFN_ENTRY_LENGTH" 1143, .int 26 1142⟩, ⟨PyData.keyHash P "__init__", .str "__init__" 1150, .ref 614⟩, ⟨PyData.keyHash P "get_entries", .str "get_entries" 1160, .ref 622⟩, ⟨PyData.keyHash P "mark_empty", .str "mark_empty" 1167, .ref 629⟩, ⟨PyData.keyHash P "as_bytes", .str "as_bytes" 1174, .ref 636⟩, ⟨PyData.keyHash P "as_text", .str "as_text" 1184, .ref 643⟩, ⟨PyData.keyHash P "is_lfn_entry", .str "is_lfn_entry" 1204, .ref 652⟩, ⟨PyData.keyHash P "add_lfn_entry", .str "add_lfn_entry" 1219, .ref 660⟩, ⟨PyData.keyHash P "is_lfn_entry_complete", .str "is_lfn_entry_complete" 1226, .ref 667⟩, ⟨PyData.keyHash P "__static_attributes__", .str "__static_attributes__" 1228, .ref 668⟩] 15), #[]⟩),
  (603, ⟨.type "tuple", none, (.seq #[] 0), #[]⟩),
  (604, ⟨.none, none, (.fields #[(.int 400 0), (.int 4 0), (.ref 613), (.int 403 0), (.int 4 0), (.ref 621), (.int 407 0), (.int 4 0), (.ref 628), (.int 410 0), (.int 4 0), (.ref 635), (.int 413 0), (.int 4 0), (.ref 642), (.int 426 0), (.int 4 0), (.ref 649), (.int 429 0), (.int 4 0), (.ref 659), (.int 432 0), (.int 4 0), (.ref 666)]), #[]⟩),
  (605, ⟨.type "code", none, (.fields #[(.str "FATLongDirectoryEntry" 1121), (.str "FATLongDirectoryEntry" 1122), (.str "/claim/cut.py" 1123), (.int 395 0), (.int 0 0), (.int 0 0), (.int 0 0), (.int 0 0), (.ref 603), (.bool false), (.int 181 0), (.ref 604), .none, .none, .none, .none, (.int 1124 0), (.int 395 0), (.str "/claim/cut.py" 1125)]), #[]⟩),
  (606, ⟨.type "frame", none, .plain, #[(some (.ref 605)), (some (.ref 3)), (some (.ref 602)), none, (some (.str "pyfatfs.FATDirectoryEntry" 704)), none, (some (.ref 0))]⟩),
  (609, ⟨.none, none, (.fields #[]), #[]⟩),
  (612, ⟨.none, none, (.func (fnQ (pk [18, 3]) "FATLongDirectoryEntry.__init__" 0 [] .none .none .none .none none .none .none 0)), #[]⟩),
  (617, ⟨.none, none, (.fields #[]), #[]⟩),
  (620, ⟨.none, none, (.func (fnQ (pk [18, 4]) "FATLongDirectoryEntry.get_entries" 0 [] .none .none .none .none none .none .none 0)), #[]⟩),
  (624, ⟨.none, none, (.fields #[]), #[]⟩),
  (627, ⟨.none, none, (.func (fnQ (pk [18, 5]) "FATLongDirectoryEntry.mark_empty" 0 [] .none .none .none .none none .none .none 0)), #[]⟩),
  (631, ⟨.none, none, (.fields #[]), #[]⟩),
  (634, ⟨.none, none, (.func (fnQ (pk [18, 6]) "FATLongDirectoryEntry.as_bytes" 0 [] .none .none .none .none none .none .none 0)), #[]⟩),
  (638, ⟨.none, none, (.fields #[]), #[]⟩),
  (641, ⟨.none, none, (.func (fnQ (pk [18, 7]) "FATLongDirectoryEntry.as_text" 0 [] .none .none .none .none none .none .none 0)), #[]⟩),
  (645, ⟨.none, none, (.fields #[]), #[]⟩),
  (648, ⟨.none, none, (.func (fnQ (pk [18, 8]) "FATLongDirectoryEntry.is_lfn_entry" 0 [] .none .none .none .none none .none .none 0)), #[]⟩),
  (655, ⟨.none, none, (.fields #[]), #[]⟩),
  (658, ⟨.none, none, (.func (fnQ (pk [18, 9]) "FATLongDirectoryEntry.add_lfn_entry" 0 [] .none .none .none .none none .none .none 0)), #[]⟩),
  (662, ⟨.none, none, (.fields #[]), #[]⟩),
  (665, ⟨.none, none, (.func (fnQ (pk [18, 10]) "FATLongDirectoryEntry.is_lfn_entry_complete" 0 [] .none .none .none .none none .none .none 0)), #[]⟩),
  (673, ⟨.type "super", none, (.fields #[(.ref 670), (.ref 670), (.ref 670)]), #[]⟩),
  (674, ⟨.type "builtin_function_or_method", none, (.fields #[(.builtin "object.__init_subclass__"), (.ref 670)]), #[]⟩),
  (676, ⟨.none, none, (.fields #[]), #[]⟩),
  (679, ⟨.none, none, (.func (fnQ (pk [20]) "_law_days" 0 [] .none .none .none .none none .none .none 0)), #[]⟩),
  (683, ⟨.none, none, (.fields #[]), #[]⟩),
  (686, ⟨.none, none, (.func (fnQ (pk [21]) "_law_is_day" 0 [] .none .none .none .none none .none .none 0)), #[]⟩),
  (690, ⟨.none, none, (.fields #[]), #[]⟩),
  (693, ⟨.none, none, (.func (fnQ (pk [22]) "_law_is_time" 0 [] .none .none .none .none none .none .none 0)), #[]⟩),
  (697, ⟨.none, none, (.fields #[]), #[]⟩),
  (700, ⟨.none, none, (.func (fnQ (pk [23]) "_law_date" 0 [] .none .none .none .none none .none .none 0)), #[]⟩),
  (704, ⟨.none, none, (.fields #[]), #[]⟩),
  (707, ⟨.none, none, (.func (fnQ (pk [24]) "_law_time" 0 [] .none .none .none .none none .none .none 0)), #[]⟩),
  (711, ⟨.none, none, (.fields #[]), #[]⟩),
  (714, ⟨.none, none, (.func (fnQ (pk [25]) "_law_six" 0 [] .none .none .none .none none .none .none 0)), #[]⟩),
  (718, ⟨.none, none, (.fields #[]), #[]⟩),
  (721, ⟨.none, none, (.func (fnQ (pk [26]) "_law_wide" 0 [] .none .none .none .none none .none .none 0)), #[]⟩),
  (725, ⟨.none, none, (.fields #[]), #[]⟩),
  (728, ⟨.none, none, (.func (fnQ (pk [27]) "_law_made" 0 [] .none .none .none .none none .none .none 0)), #[]⟩),
  (732, ⟨.none, none, (.fields #[]), #[]⟩),
  (735, ⟨.none, none, (.func (fnQ (pk [28]) "_law_word" 0 [] .none .none .none .none none .none .none 0)), #[]⟩),
  (739, ⟨.none, none, (.fields #[]), #[]⟩),
  (740, ⟨.none, none, (.func (fnQ (pk [29]) "_law_entry" 0 [] .none .none .none .none none .none .none 0)), #[]⟩),
  (744, ⟨.none, none, (.fields #[]), #[]⟩),
  (747, ⟨.none, none, (.func (fnQ (pk [30]) "_law_moment" 0 [] .none .none .none .none none .none .none 0)), #[]⟩),
  (751, ⟨.none, none, (.fields #[]), #[]⟩),
  (752, ⟨.none, none, (.func (fnQ (pk [31]) "law" 0 [] .none .none .none .none none .none .none 0)), #[]⟩)]
end Mine
end
section
namespace Mine
def mrg : Nat → Frag → Frag → List Obj
  | 0, _, _ => []
  | n + 1, (a, o) :: k, (b, p) :: x => match Nat.blt a b with
    | true => o :: mrg n k ((b, p) :: x)
    | false => p :: mrg n ((a, o) :: k) x
  | n + 1, [], (_, p) :: x => p :: mrg n [] x
  | n + 1, (_, o) :: k, [] => o :: mrg n k []
  | _ + 1, [], [] => []
def bld : Nat → Nat → List Obj → BT → BT
  | 0, _, _, t => t
  | c + 1, i, o :: l, t => bld c (i + 1) l (t.ins i o)
  | _ + 1, _, [], t => t
/-- the text's namespace after some statements: the last one's first entries, the name of the file at hand -/
def cutG (m : Nat) (nm : Value) (o : Obj) : Obj := match o with
  | ⟨c, d, .dict es _, s⟩ => match es.toList.take m with
    | ⟨h, k, _⟩ :: l => ⟨c, d, .dict (⟨h, k, nm⟩ :: l).toArray m, s⟩
    | [] => o
  | o => o
def cutF (k : Nat) (o : Obj) : Obj := match o with
  | ⟨c, d, .fields vs, s⟩ => ⟨c, d, .fields (vs.toList.take k).toArray, s⟩
  | o => o
def bareS (o : Obj) : Obj := match o with
  | ⟨c, d, .cls x, s⟩ => ⟨c, d, .cls { x with subclasses := [] }, s⟩
  | o => o
noncomputable def trAt (n m k : Nat) (nm : Value) (s2 s128 : Bool) (P : Params) : BT :=
  let t := bld n 0 (mrg 755 (hd.heap_39 P) (extra P)) .nil
  let t := (t.set 3 (cutG m nm)).set 12 (cutF k)
  let t := match s2 with | true => t | false => t.set 2 (fun _ => ⟨.none, none, .dict #[] 0, #[]⟩)
  match s128 with | true => t | false => t.set 128 bareS
noncomputable def stAt (n tk m k : Nat) (nm : Value) (s2 s128 : Bool) (w : World) (os : OsState) : SharedT := ⟨trAt n m k nm s2 s128 w.params, n, {}, #[], {}, tk, os⟩
abbrev PW : Program := PySem.Challenge.pw_jr0027_01
noncomputable def envH : Env := { scope := PW.main.scope, locals := mainNs, globals := mainNs, cells := [], code := .ref 13, frame := some 14 }
noncomputable abbrev cH : Code := .body (behindTheImports PW) envH
abbrev qH : Pos := ⟨0, 0, 0, 0⟩
noncomputable def stmtsH (a n : Nat) : List Stmt := (PW.main.body.drop a).take n
noncomputable abbrev fastRun := PySem.W.Fast.tw10110043849684766642
noncomputable abbrev fastTable := PySem.W.Fast.tw14364793385576792824
theorem slowRun {w : World} {n : Nat} {s s' : SharedT} {t : Thread} {f : Flow} {c : Code} {q : Pos} (h : fastRun fastTable PW w 11 (some (.ref 6)) 1 n s t = some (f, s', c, q)) :
    segRun treeTable PW w 11 (some (.ref 6)) 1 n s.abs t = some (f, s'.abs, c, q) := by
  refine segRun_of ?_
  rw [PySem.W.Fast.te10110043849684766642, PySem.W.Fast.te14364793385576792824]
  exact h
theorem piece0 (w : World) (os : OsState) : fastRun fastTable PW w 11 (some (.ref 6)) 1 265 (stAt 15 187 9 0 (.str "__main__" 164) false false w os) (piecesOf (stmtsH 0 3) envH cH ⟨0, 0, 0, 0⟩ [topFrame qH]) =
    some (.next, stAt 43 229 11 6 (.str "pyfatfs.DosDateTime" 194) false false w os, cH, ⟨5, 0, 12, 28⟩) := by kernel_rfl
theorem piece1 (w : World) (os : OsState) : fastRun fastTable PW w 11 (some (.ref 6)) 1 799 (stAt 43 229 11 6 (.str "pyfatfs.DosDateTime" 194) false false w os) (piecesOf (stmtsH 3 1) envH cH ⟨5, 0, 12, 28⟩ [topFrame qH]) =
    some (.next, stAt 109 353 12 9 (.str "pyfatfs.DosDateTime" 194) false false w os, cH, ⟨13, 0, 62, 35⟩) := by kernel_rfl
theorem piece2 (w : World) (os : OsState) : fastRun fastTable PW w 11 (some (.ref 6)) 1 808 (stAt 109 353 12 9 (.str "pyfatfs.DosDateTime" 194) false false w os) (piecesOf (stmtsH 4 4) envH cH ⟨13, 0, 62, 35⟩ [topFrame qH]) =
    some (.next, stAt 158 453 15 18 (.str "pyfatfs._exceptions" 353) true true w os, cH, ⟨71, 0, 86, 22⟩) := by kernel_rfl
theorem piece3 (w : World) (os : OsState) : fastRun fastTable PW w 11 (some (.ref 6)) 1 1480 (stAt 158 453 15 18 (.str "pyfatfs._exceptions" 353) true true w os) (piecesOf (stmtsH 8 8) envH cH ⟨71, 0, 86, 22⟩ [topFrame qH]) =
    some (.next, stAt 310 704 22 36 (.str "pyfatfs.EightDotThree" 490) true true w os, cH, ⟨119, 0, 205, 16⟩) := by kernel_rfl
theorem piece4 (w : World) (os : OsState) : fastRun fastTable PW w 11 (some (.ref 6)) 1 1858 (stAt 310 704 22 36 (.str "pyfatfs.EightDotThree" 490) true true w os) (piecesOf (stmtsH 16 2) envH cH ⟨119, 0, 205, 16⟩ [topFrame qH]) =
    some (.next, stAt 600 1119 23 39 (.str "pyfatfs.FATDirectoryEntry" 704) true true w os, cH, ⟨207, 0, 394, 17⟩) := by kernel_rfl
theorem piece5 (w : World) (os : OsState) : fastRun fastTable PW w 11 (some (.ref 6)) 1 1010 (stAt 600 1119 23 39 (.str "pyfatfs.FATDirectoryEntry" 704) true true w os) (piecesOf (stmtsH 18 14) envH cH ⟨207, 0, 394, 17⟩ [topFrame qH]) =
    some (.next, stAt 755 1348 36 78 (.str "law_jr0027_01" 1236) true true w os, cH, ⟨506, 0, 526, 15⟩) := by kernel_rfl
end Mine
end
section
namespace Mine
noncomputable abbrev addrsH : List Addr := [2, 3, 15, 17, 18, 20, 21, 29, 31, 32, 34, 35, 36, 37, 38, 39, 40, 50, 51, 53, 54, 56, 57, 58, 60, 61, 63, 64, 65, 66, 67, 68, 70, 71, 73, 74, 75, 77, 78, 80, 81, 82, 84, 85, 87, 88, 89, 90, 91, 92, 94, 95, 97, 98, 99, 100, 101, 102, 103, 104, 105, 106, 109, 112, 117, 118, 119, 121, 122, 124, 125, 126, 127, 128, 129, 132, 139, 140, 141, 151, 152, 153, 154, 155, 158, 161, 162, 163, 166, 167, 168, 171, 172, 173, 175, 176, 178, 179, 180, 182, 183, 185, 186, 194, 195, 196, 198, 199, 201, 202, 203, 205, 206, 208, 209, 210, 212, 213, 215, 216, 217, 219, 220, 222, 223, 224, 226, 227, 229, 230, 231, 232, 233, 234, 236, 237, 239, 240, 241, 243, 244, 246, 247, 248, 250, 251, 253, 254, 255, 257, 258, 260, 261, 262, 264, 265, 267, 268, 269, 270, 271, 272, 273, 275, 276, 278, 279, 280, 281, 282, 283, 285, 286, 288, 289, 290, 291, 292, 293, 295, 296, 298, 299, 300, 301, 302, 303, 304, 305, 306, 307, 317, 318, 319, 321, 322, 324, 325, 326, 328, 329, 331, 332, 333, 334, 336, 337, 339, 340, 341, 342, 343, 344, 346, 347, 349, 350, 351, 353, 354, 356, 357, 358, 360, 361, 363, 364, 365, 367, 368, 370, 371, 372, 373, 374, 375, 377, 378, 380, 381, 382, 384, 385, 387, 388, 389, 391, 392, 394, 395, 396, 398, 399, 401, 402, 403, 405, 406, 408, 409, 410, 412, 413, 415, 416, 417, 419, 420, 422, 423, 424, 426, 427, 429, 430, 431, 433, 434, 436, 437, 438, 440, 441, 443, 444, 445, 447, 448, 450, 451, 452, 454, 455, 457, 458, 459, 461, 462, 464, 465, 466, 468, 469, 471, 472, 473, 475, 476, 478, 479, 480, 482, 483, 485, 486, 487, 489, 490, 492, 493, 494, 496, 497, 499, 500, 501, 503, 504, 506, 507, 508, 510, 511, 513, 514, 515, 517, 518, 520, 521, 522, 524, 525, 527, 528, 529, 531, 532, 534, 535, 536, 538, 539, 541, 542, 543, 545, 546, 548, 549, 550, 551, 553, 554, 556, 557, 558, 560, 561, 563, 564, 565, 567, 568, 570, 571, 572, 574, 575, 577, 578, 579, 581, 582, 584, 585, 586, 588, 589, 591, 592, 593, 594, 595, 596, 597, 600, 607, 608, 610, 611, 613, 614, 615, 616, 618, 619, 621, 622, 623, 625, 626, 628, 629, 630, 632, 633, 635, 636, 637, 639, 640, 642, 643, 644, 646, 647, 649, 650, 651, 652, 653, 654, 656, 657, 659, 660, 661, 663, 664, 666, 667, 668, 669, 670, 671, 672, 675, 677, 678, 680, 681, 682, 684, 685, 687, 688, 689, 691, 692, 694, 695, 696, 698, 699, 701, 702, 703, 705, 706, 708, 709, 710, 712, 713, 715, 716, 717, 719, 720, 722, 723, 724, 726, 727, 729, 730, 731, 733, 734, 736, 737, 738, 741, 742, 743, 745, 746, 748, 749, 750, 753, 754]
def keepAt (l : List Nat) (b : List Stmt) : List Stmt := l.map fun i => b.getD i (.Pass ⟨0, 0, 0, 0⟩)
def hd.view_39 : Program := { PW with main := { PW.main with body := keepAt [0, 2, 3, 5, 6, 7, 8, 9, 10, 11, 12, 13, 15, 17, 18, 20, 21, 22, 23, 24, 25, 26, 27, 28, 29, 30, 31] PW.main.body } }
abbrev loo0 : List Str := [Str.ofString "DosDateTime", Str.ofString "PyFATException", Str.ofString "errno", Str.ofString "EightDotThree", Str.ofString "FATDirectoryEntry", Str.ofString "FATLongDirectoryEntry"]
def lookT (t : BT) (n a : Nat) : Option (Option Obj) := match Nat.blt a n with
  | true => (t.get a).map alive
  | false => none
theorem lookT_of {t : BT} {n a : Nat} {life : Life} {r : Option Obj} (h : lookT t n a = some r) : (absHeap t n life).get? a = r := by
  unfold lookT at h
  cases e : Nat.blt a n with
  | false => rw [e] at h; cases h
  | true =>
    rw [e] at h
    obtain ⟨o, ho, q⟩ := Option.map_eq_some_iff.mp h
    rw [abs_get (Nat.blt_eq.mp e) ho, q]
theorem lookMap {t : BT} {n : Nat} {life : Life} : ∀ {l : List Nat} {k : Frag}, l.map (lookT t n) = k.map (fun p => some (some p.2)) → l.map (absHeap t n life).get? = k.map fun p => some p.2
  | [], [], _ => rfl
  | [], _ :: _, h => nomatch h
  | _ :: _, [], h => nomatch h
  | a :: l, p :: k, h => by
    injection h with h1 h2
    rw [List.map_cons, List.map_cons, lookT_of h1, lookMap h2]
noncomputable def heapH (P : Params) : Heap := absHeap (trAt 755 36 78 (.str "law_jr0027_01" 1236) true true P) 755 {}
noncomputable def endH (w : World) (os : OsState) : Shared := ⟨heapH w.params, #[], {}, 1348, os⟩
theorem pre (w : World) (os : OsState) : topGo treeTable PW w 11 (some (.ref 6)) 12 ⟨boot_heap w.params, #[], boot_drawn, boot_toks, os⟩ (topStub PW) = some ((stAt 15 187 9 0 (.str "__main__" 164) false false w os).abs, ⟨denote treeTable cH, cH, qH, [topFrame qH]⟩) := by
  rw [PySem.W.Fast.te15667345088766844465, PySem.W.Fast.te14364793385576792824, PySem.W.Fast.te11892475500146522536]
  kernel_rfl
theorem block (w : World) (os : OsState) : segRun treeTable PW w 11 (some (.ref 6)) 1 1 (stAt 15 187 9 0 (.str "__main__" 164) false false w os).abs (blockOf (behindTheImports PW) envH cH qH [topFrame qH]) = some (.next, (stAt 15 187 9 0 (.str "__main__" 164) false false w os).abs, cH, qH) := by
  refine slowRun ?_
  kernel_rfl
theorem fin (w : World) (os : OsState) : topRun treeTable PW w 11 (some (.ref 6)) 2 (stAt 755 1348 36 78 (.str "law_jr0027_01" 1236) true true w os).abs ⟨doneF .next, cH, ⟨506, 0, 526, 15⟩, [topFrame qH]⟩ = some (endH w os) := by
  rw [PySem.W.Fast.te14082659384304107361, PySem.W.Fast.te14364793385576792824]
  kernel_rfl
theorem bodyH : behindTheImports PW = stmtsH 0 3 ++ (stmtsH 3 1 ++ (stmtsH 4 4 ++ (stmtsH 8 8 ++ (stmtsH 16 2 ++ (stmtsH 18 14 ++ ([])))))) := by kernel_rfl
theorem runH (w : World) (os : OsState) : topRun treeTable PW w 11 (some (.ref 6)) (12 + (1 + (265 + (799 + (808 + (1480 + (1858 + (1010 + (2))))))))) ⟨boot_heap w.params, #[], boot_drawn, boot_toks, os⟩ (topStub PW) = some (endH w os) :=
  go_top (pre w os) (piece_block (block w os) ((congrArg (fun b => topRun treeTable PW w 11 (some (.ref 6)) (265 + (799 + (808 + (1480 + (1858 + (1010 + (2))))))) (stAt 15 187 9 0 (.str "__main__" 164) false false w os).abs (restOf b envH cH qH [topFrame qH])) bodyH).trans
    (piece_app (slowRun (piece0 w os)) (piece_app (slowRun (piece1 w os)) (piece_app (slowRun (piece2 w os)) (piece_app (slowRun (piece3 w os)) (piece_app (slowRun (piece4 w os)) (piece_app (slowRun (piece5 w os)) (piece_nil (fin w os))))))))))
theorem openH : ∀ w : World, (fencedOpening treeTable PW w 12554).map (fun s => (s.heap, s.gens, s.drawn, s.toks)) = some (boot_heap w.params, Array.mk [], boot_drawn, boot_toks) :=
  boot_open (by kernel_rfl) (by kernel_rfl) (fun s => by kernel_rfl)
theorem sizeH (w : World) : ((boot_heap w.params).isNs mainGlobals && (Array.mk [] : Array GenState).size == 0, (boot_heap w.params).objs.size, (boot_heap w.params).nsMap mainGlobals "__annotations__") = (true, 11, some (.ref 6)) := by kernel_rfl
noncomputable abbrev XtH (s : Shared) : Bool := xlAt hd.view_39 [] s && recOk (RowW.records PySem.Challenge.rw_jr0027_01.row.toRowW) s
theorem look1 (w : World) (os : OsState) : (staticsOk (importedModules PW.main.body) (boot_heap w.params) (heapH w.params) && namesBound PW (heapH w.params) && gensDone (endH w os) && laidKept (boot_heap w.params) (heapH w.params)) = true := by kernel_rfl
theorem look2 (w : World) (os : OsState) : openSeen hd.view_39 loo0 (importedModules PW.main.body) XtH true (endH w os) = openGood hd.view_39 loo0 := by
  rw [PySem.W.Fast.te4187177175401517315]
  kernel_rfl
theorem look3T (w : World) : addrsH.map (lookT (trAt 755 36 78 (.str "law_jr0027_01" 1236) true true w.params) 755) = (hd.heap_39 w.params).map fun p => some (some p.2) := by kernel_rfl
theorem look3 (w : World) (os : OsState) : addrsH.map (endH w os).heap.get? = (hd.heap_39 w.params).map fun p => some p.2 := lookMap (look3T w)
theorem leftH : LeftO PW hd.view_39 loo0 XtH (fun s => addrsH.map s.heap.get?) (fun w => (hd.heap_39 w.params).map fun p => some p.2) 12554 :=
  LeftO.of_pieces openH sizeH runH (by kernel_rfl) (fun w => funext fun os => by
    refine Prod.ext (look1 w os) (Prod.ext (look2 w os) (look3 w os)))
end Mine
end
section
namespace Mine
theorem saidH : PySem.Challenge.rw_jr0027_01.wellSaid = true := by
  rw [PySem.W.Fast.te9446332074065402090]
  kernel_rfl
theorem addrs_are (P : Params) : addrsH = (hd.heap_39 P).map (·.1) := by kernel_rfl
/-- the head: what is left is the walk of the law's own call -/
theorem hd {d : DefRec} {kwd : List (Str × Expr)} (hdef : defOf hd.view_39 PySem.Challenge.rw_jr0027_01.row.name = some (d, kwd))
    (hp : PySem.Challenge.rw_jr0027_01.row.prog.theDef PySem.Challenge.rw_jr0027_01.row.name = some (d.params, d.body, d.scope)) (hk : kwWritten? d.params.kwonlyargs d.params.kw_defaults = some kwd)
    (walk : WalkOG hd.view_39 loo0 (XL hd.view_39 []) (InK hd.heap_39) PySem.Challenge.rw_jr0027_01.row.toRowW d kwd) : PySem.Challenge.rw_jr0027_01.Holds :=
  holds_law saidH fun said => Mine.PySem.W.holds_open (Xt := XtH) leftH (fun w s e => InK.of addrs_are w s e) InK.keeps (fun s e => xl_of s (Bool.and_eq_true_iff.mp e).1) XL.keeps hdef hp hk
    (fun s e => recFacts_of (Bool.and_eq_true_iff.mp e).2) rfl said (by decide +kernel) ⟨rfl, rfl, rfl, rfl, rfl, by decide +kernel⟩ (by w_witness2) walk
end Mine
end
section
namespace Mine
noncomputable abbrev PR : Program := PySem.Challenge.rw_jr0027_01.row.prog
noncomputable abbrev KK (w : World) : Frag := Mine.hd.heap_39 w.params
noncomputable abbrev LOO : List Str := looseW Mine.hd.view_39 [Str.ofString "DosDateTime", Str.ofString "PyFATException", Str.ofString "errno", Str.ofString "EightDotThree", Str.ofString "FATDirectoryEntry", Str.ofString "FATLongDirectoryEntry"]
noncomputable abbrev LOOSE : List Str := LOO ++ List.map (fun x => x.name) (recsOf Mine.hd.view_39) ++ List.map (fun x => x.fst) (litsOf Mine.hd.view_39) ++ List.map (fun x => x.name) (clssOf Mine.hd.view_39 LOO)
abbrev aT (hd : Option Value) (dp un : Nat) (gd : Option (List Code)) (cn : Str) (cs : Scope) (L a : Addr) (ccd : Value) (cl : List (Str × Addr)) (outer : List Env) : Around :=
  { handled := hd, depth := dp, frames := some (envX cn cs L a ccd cl :: outer), guards := gd, units := un }
def okTime (h m s : Int) : Prop := 0 ≤ h ∧ h ≤ 23 ∧ 0 ≤ m ∧ m ≤ 59 ∧ 0 ≤ s ∧ s ≤ 59
noncomputable abbrev ent (w : World) (x : Str) (k : Tok) (v : Value) : DictEntry := ⟨PyData.keyHash w.params x, .str x k, v⟩
noncomputable abbrev timeD (w : World) (k1 k2 k3 : Tok) (v1 v2 v3 : Value) : Obj := dictOf [ent w "hour" k1 v1, ent w "minute" k2 v2, ent w "second" k3 v3] 3
def leap (y : Int) : Prop := y % 4 = 0 ∧ (y % 100 ≠ 0 ∨ y % 400 = 0)
def okDay (y m d : Int) : Prop := 1 ≤ y ∧ y ≤ 9999 ∧ 1 ≤ m ∧ m ≤ 12 ∧ 1 ≤ d ∧ d ≤ 31 ∧ ((m = 4 ∨ m = 6 ∨ m = 9 ∨ m = 11) → d ≤ 30) ∧ (m = 2 → d ≤ 29 ∧ (¬ leap y → d ≤ 28))
noncomputable abbrev dateD (w : World) (k1 k2 k3 k4 k5 k6 : Tok) (v1 v2 v3 v4 v5 v6 : Value) : Obj := dictOf [ent w "year" k1 v1, ent w "month" k2 v2, ent w "day" k3 v3, ent w "hour" k4 v4, ent w "minute" k5 v5, ent w "second" k6 v6] 6
theorem subC {α : Type} {x : α} {l k : List α} (hx : x ∈ k) (h : ∀ p ∈ l, p ∈ k) : ∀ p ∈ x :: l, p ∈ k := fun p hp => (List.mem_cons.mp hp).elim (fun e => e ▸ hx) (h p)
noncomputable def fdZ : FuncData := fnOf (Str.ofString "") (Str.ofString "") { posonlyargs := [], args := [], vararg := none, kwonlyargs := [], kw_defaults := [], kwarg := none, defaults := [] } [] { kind := .function, names := [], isGenerator := false, isCoroutine := false } .none .none .none .none none .none .none
noncomputable def fdAt (K : Frag) (a : Addr) : FuncData := match K.lookup a with | some ⟨_, _, .func fd, _⟩ => fd | _ => fdZ
def dOK (w : Int) : Prop := okDay (1980 + w / 512) (w / 32 % 16) (w % 32)
noncomputable def dY (w : Int) : Int := @ite _ (dOK w) (Classical.propDecidable _) (1980 + w / 512) 1980
noncomputable def dM (w : Int) : Int := @ite _ (dOK w) (Classical.propDecidable _) (w / 32 % 16) 1
noncomputable def dD (w : Int) : Int := @ite _ (dOK w) (Classical.propDecidable _) (w % 32) 1
def tOK (w : Int) : Prop := okTime (w / 2048) (w / 32 % 64) (w % 32 * 2)
noncomputable def tH (w : Int) : Int := @ite _ (tOK w) (Classical.propDecidable _) (w / 2048) 0
noncomputable def tM (w : Int) : Int := @ite _ (tOK w) (Classical.propDecidable _) (w / 32 % 64) 0
noncomputable def tS (w : Int) : Int := @ite _ (tOK w) (Classical.propDecidable _) (w % 32 * 2) 0
abbrev menu12 (m : Int) : Int := [31, 28, 31, 30, 31, 30, 31, 31, 30, 31, 30, 31].getD (m - 1).toNat 0
theorem fmE (a b : Int) (h : 0 ≤ b) : a.fmod b = a % b := Int.fmod_eq_emod_of_nonneg a h
theorem bound12 {P : Int → Prop} (h : ∀ k : Fin 12, P ((k.val : Int) + 1)) {m : Int} (h1 : 1 ≤ m) (h2 : m ≤ 12) : P m := by
  obtain ⟨k, rfl⟩ := Int.le.dest h1
  rw [Int.add_comm] at h2 ⊢
  exact h ⟨k, Int.ofNat_lt.mp h2⟩
theorem cases12 {m : Int} (h1 : 1 ≤ m) (h2 : m ≤ 12) : m = 1 ∨ m = 2 ∨ m = 3 ∨ m = 4 ∨ m = 5 ∨ m = 6 ∨ m = 7 ∨ m = 8 ∨ m = 9 ∨ m = 10 ∨ m = 11 ∨ m = 12 :=
  bound12 (P := fun m => m = 1 ∨ m = 2 ∨ m = 3 ∨ m = 4 ∨ m = 5 ∨ m = 6 ∨ m = 7 ∨ m = 8 ∨ m = 9 ∨ m = 10 ∨ m = 11 ∨ m = 12) (by decide) h1 h2
theorem menuVal {m : Int} (h1 : 1 ≤ m) (h2 : m ≤ 12) : (m = 2 → menu12 m = 28) ∧ ((m = 4 ∨ m = 6 ∨ m = 9 ∨ m = 11) → menu12 m = 30) ∧ (¬ (m = 2 ∨ m = 4 ∨ m = 6 ∨ m = 9 ∨ m = 11) → menu12 m = 31) :=
  bound12 (P := fun m => (m = 2 → menu12 m = 28) ∧ ((m = 4 ∨ m = 6 ∨ m = 9 ∨ m = 11) → menu12 m = 30) ∧ (¬ (m = 2 ∨ m = 4 ∨ m = 6 ∨ m = 9 ∨ m = 11) → menu12 m = 31)) (by decide) h1 h2
theorem badDay1 {y m d : Int} (h : m = 2 ∧ leap y) (hd : ¬ d ≤ 29) : ¬ okDay y m d :=
  fun hc => hd ((hc.2.2.2.2.2.2.2 h.1).1)
theorem badDay2 {y m d : Int} (h : ¬ (m = 2 ∧ leap y)) (h1 : 1 ≤ y ∧ y ≤ 9999 ∧ 1 ≤ m ∧ m ≤ 12 ∧ 1 ≤ d) (hd : ¬ d ≤ menu12 m) : ¬ okDay y m d := by
  intro hc
  obtain ⟨a, b, c⟩ := menuVal h1.2.2.1 h1.2.2.2.1
  obtain ⟨_, _, _, _, _, h31, h30, h28⟩ := hc
  by_cases m2 : m = 2
  · rw [a m2] at hd; exact hd ((h28 m2).2 (fun hl => h ⟨m2, hl⟩))
  · by_cases m4 : m = 4 ∨ m = 6 ∨ m = 9 ∨ m = 11
    · rw [b m4] at hd; exact hd (h30 m4)
    · rw [c (fun q => q.elim m2 m4)] at hd; exact hd h31
theorem badDay0 {y m d : Int} (h1 : ¬ (1 ≤ y ∧ y ≤ 9999 ∧ 1 ≤ m ∧ m ≤ 12 ∧ 1 ≤ d)) : ¬ okDay y m d :=
  fun hc => h1 ⟨hc.1, hc.2.1, hc.2.2.1, hc.2.2.2.1, hc.2.2.2.2.1⟩
theorem goodDay1 {y m d : Int} (h1 : 1 ≤ y ∧ y ≤ 9999 ∧ 1 ≤ m ∧ m ≤ 12 ∧ 1 ≤ d) (h : m = 2 ∧ leap y) (hd : d ≤ 29) : okDay y m d :=
  ⟨h1.1, h1.2.1, h1.2.2.1, h1.2.2.2.1, h1.2.2.2.2, Int.le_trans hd (by decide), fun _ => Int.le_trans hd (by decide), fun _ => ⟨hd, fun hn => absurd h.2 hn⟩⟩
theorem goodDay2 {y m d : Int} (h1 : 1 ≤ y ∧ y ≤ 9999 ∧ 1 ≤ m ∧ m ≤ 12 ∧ 1 ≤ d) (h : ¬ (m = 2 ∧ leap y)) (hd : d ≤ menu12 m) : okDay y m d := by
  obtain ⟨a, b, c⟩ := menuVal h1.2.2.1 h1.2.2.2.1
  refine ⟨h1.1, h1.2.1, h1.2.2.1, h1.2.2.2.1, h1.2.2.2.2, ?_, fun q => by rw [b q] at hd; exact hd, fun q => ?_⟩
  · by_cases m2 : m = 2
    · rw [a m2] at hd; exact Int.le_trans hd (by decide)
    · by_cases m4 : m = 4 ∨ m = 6 ∨ m = 9 ∨ m = 11
      · rw [b m4] at hd; exact Int.le_trans hd (by decide)
      · rw [c (fun q => q.elim m2 m4)] at hd; exact hd
  · rw [a q] at hd; exact ⟨Int.le_trans hd (by decide), fun _ => hd⟩
theorem bindsOf {K : Frag} {a : Addr} {s : Shared} {oc oc' : Value} {od od' : Option Addr} {osl osl' : Array (Option Value)} {fd fd' : FuncData} {args : Args} {binds : List (Str × Value)} (h : K.lookup a = some ⟨oc, od, .func fd, osl⟩) (h' : K.lookup a = some ⟨oc', od', .func fd', osl'⟩) (hb : BindsTo s fd args binds) : BindsTo s fd' args binds := by
  rw [h] at h'
  injection h' with h'
  injection h' with _ _ e _
  injection e with e
  exact e ▸ hb
theorem div7 {v : Int} (h0 : 0 ≤ v) (h1 : v < 65536) : 0 ≤ v / 512 ∧ v / 512 < 128 := ⟨Int.ediv_nonneg h0 (by decide), Int.ediv_lt_of_lt_mul (by decide) h1⟩
theorem bY {v : Int} (h0 : 0 ≤ v) (h1 : v < 65536) : Builtin.bitAnd (v.fdiv (2 ^ Int.toNat 9)) (1 * 2 ^ Int.toNat 7 - 1) + 1980 = 1980 + v / 512 := by
  rw [show (2 : Int) ^ Int.toNat 9 = 512 from by decide, show (1 : Int) * 2 ^ Int.toNat 7 - 1 = 127 from by decide, bitAnd_m7, Int.fdiv_eq_ediv_of_nonneg _ (by decide), Int.emod_eq_of_lt (div7 h0 h1).1 (div7 h0 h1).2, Int.add_comm]
theorem bM {v : Int} : Builtin.bitAnd (v.fdiv (2 ^ Int.toNat 5)) (1 * 2 ^ Int.toNat 4 - 1) = v / 32 % 16 := by
  rw [show (2 : Int) ^ Int.toNat 5 = 32 from by decide, show (1 : Int) * 2 ^ Int.toNat 4 - 1 = 15 from by decide, bitAnd_m4, Int.fdiv_eq_ediv_of_nonneg _ (by decide)]
theorem bD {v : Int} : Builtin.bitAnd v (1 * 2 ^ Int.toNat 5 - 1) = v % 32 := by
  rw [show (1 : Int) * 2 ^ Int.toNat 5 - 1 = 31 from by decide, bitAnd_m5]
theorem bH {v : Int} (h0 : 0 ≤ v) (h1 : v < 65536) : Builtin.bitAnd (v.fdiv (2 ^ Int.toNat 11)) (1 * 2 ^ Int.toNat 5 - 1) = v / 2048 := by
  rw [show (2 : Int) ^ Int.toNat 11 = 2048 from by decide, show (1 : Int) * 2 ^ Int.toNat 5 - 1 = 31 from by decide, bitAnd_m5, Int.fdiv_eq_ediv_of_nonneg _ (by decide), Int.emod_eq_of_lt (Int.ediv_nonneg h0 (by decide)) (Int.ediv_lt_of_lt_mul (by decide) h1)]
theorem bMi {v : Int} : Builtin.bitAnd (v.fdiv (2 ^ Int.toNat 5)) (1 * 2 ^ Int.toNat 6 - 1) = v / 32 % 64 := by
  rw [show (2 : Int) ^ Int.toNat 5 = 32 from by decide, show (1 : Int) * 2 ^ Int.toNat 6 - 1 = 63 from by decide, bitAnd_m6, Int.fdiv_eq_ediv_of_nonneg _ (by decide)]
theorem dGood {v : Int} (h0 : 0 ≤ v) (h1 : v < 65536) (h : okDay (Builtin.bitAnd (v.fdiv (2 ^ Int.toNat 9)) (1 * 2 ^ Int.toNat 7 - 1) + 1980) (Builtin.bitAnd (v.fdiv (2 ^ Int.toNat 5)) (1 * 2 ^ Int.toNat 4 - 1)) (Builtin.bitAnd v (1 * 2 ^ Int.toNat 5 - 1))) :
    Builtin.bitAnd (v.fdiv (2 ^ Int.toNat 9)) (1 * 2 ^ Int.toNat 7 - 1) + 1980 = dY v ∧ Builtin.bitAnd (v.fdiv (2 ^ Int.toNat 5)) (1 * 2 ^ Int.toNat 4 - 1) = dM v ∧ Builtin.bitAnd v (1 * 2 ^ Int.toNat 5 - 1) = dD v := by
  rw [bY h0 h1, bM, bD] at h ⊢
  have h : dOK v := h
  simp only [dY, dM, dD, if_pos h, and_self]
theorem okT0 : okTime 0 0 0 := by simp [okTime]
theorem dBad {v : Int} (h0 : 0 ≤ v) (h1 : v < 65536) (h : ¬ (okDay (Builtin.bitAnd (v.fdiv (2 ^ Int.toNat 9)) (1 * 2 ^ Int.toNat 7 - 1) + 1980) (Builtin.bitAnd (v.fdiv (2 ^ Int.toNat 5)) (1 * 2 ^ Int.toNat 4 - 1)) (Builtin.bitAnd v (1 * 2 ^ Int.toNat 5 - 1)) ∧ okTime 0 0 0)) :
    1980 = dY v ∧ 1 = dM v ∧ 1 = dD v := by
  rw [bY h0 h1, bM, bD] at h
  have h : ¬ dOK v := fun q => h ⟨q, okT0⟩
  simp only [dY, dM, dD, if_neg h, and_self]
theorem tGood {v : Int} (h0 : 0 ≤ v) (h1 : v < 65536) (h : okTime (Builtin.bitAnd (v.fdiv (2 ^ Int.toNat 11)) (1 * 2 ^ Int.toNat 5 - 1)) (Builtin.bitAnd (v.fdiv (2 ^ Int.toNat 5)) (1 * 2 ^ Int.toNat 6 - 1)) (Builtin.bitAnd v (1 * 2 ^ Int.toNat 5 - 1) * 2)) :
    Builtin.bitAnd (v.fdiv (2 ^ Int.toNat 11)) (1 * 2 ^ Int.toNat 5 - 1) = tH v ∧ Builtin.bitAnd (v.fdiv (2 ^ Int.toNat 5)) (1 * 2 ^ Int.toNat 6 - 1) = tM v ∧ Builtin.bitAnd v (1 * 2 ^ Int.toNat 5 - 1) * 2 = tS v := by
  rw [bH h0 h1, bMi, bD] at h ⊢
  have h : tOK v := h
  simp only [tH, tM, tS, if_pos h, and_self]
theorem tBad {v : Int} (h0 : 0 ≤ v) (h1 : v < 65536) (h : ¬ okTime (Builtin.bitAnd (v.fdiv (2 ^ Int.toNat 11)) (1 * 2 ^ Int.toNat 5 - 1)) (Builtin.bitAnd (v.fdiv (2 ^ Int.toNat 5)) (1 * 2 ^ Int.toNat 6 - 1)) (Builtin.bitAnd v (1 * 2 ^ Int.toNat 5 - 1) * 2)) :
    0 = tH v ∧ 0 = tM v ∧ 0 = tS v := by
  rw [bH h0 h1, bMi, bD] at h
  have h : ¬ tOK v := h
  simp only [tH, tM, tS, if_neg h, and_self]
abbrev tupO (vs : List Value) : Obj := { cls := .type "tuple", data := .seq vs.toArray }
theorem dGoodL {v : Int} (h : okDay (1980 + v.fdiv 512) ((v.fdiv 32).fmod 16) (v.fmod 32)) : 1980 + v.fdiv 512 = dY v ∧ (v.fdiv 32).fmod 16 = dM v ∧ v.fmod 32 = dD v := by
  rw [Int.fdiv_eq_ediv_of_nonneg _ (by decide), Int.fdiv_eq_ediv_of_nonneg _ (by decide), Int.fmod_eq_emod_of_nonneg _ (by decide), Int.fmod_eq_emod_of_nonneg _ (by decide)] at h ⊢
  have h : dOK v := h
  simp only [dY, dM, dD, if_pos h, and_self]
theorem dBadL {v : Int} (h : ¬ okDay (1980 + v.fdiv 512) ((v.fdiv 32).fmod 16) (v.fmod 32)) : 1980 = dY v ∧ 1 = dM v ∧ 1 = dD v := by
  rw [Int.fdiv_eq_ediv_of_nonneg _ (by decide), Int.fdiv_eq_ediv_of_nonneg _ (by decide), Int.fmod_eq_emod_of_nonneg _ (by decide), Int.fmod_eq_emod_of_nonneg _ (by decide)] at h
  have h : ¬ dOK v := h
  simp only [dY, dM, dD, if_neg h, and_self]
theorem tGoodL {v : Int} (h : okTime (v.fdiv 2048) ((v.fdiv 32).fmod 64) (v.fmod 32 * 2)) : v.fdiv 2048 = tH v ∧ (v.fdiv 32).fmod 64 = tM v ∧ v.fmod 32 * 2 = tS v := by
  rw [Int.fdiv_eq_ediv_of_nonneg _ (by decide), Int.fdiv_eq_ediv_of_nonneg _ (by decide), Int.fmod_eq_emod_of_nonneg _ (by decide), Int.fmod_eq_emod_of_nonneg _ (by decide)] at h ⊢
  have h : tOK v := h
  simp only [tH, tM, tS, if_pos h, and_self]
theorem tBadL {v : Int} (h : ¬ okTime (v.fdiv 2048) ((v.fdiv 32).fmod 64) (v.fmod 32 * 2)) : 0 = tH v ∧ 0 = tM v ∧ 0 = tS v := by
  rw [Int.fdiv_eq_ediv_of_nonneg _ (by decide), Int.fdiv_eq_ediv_of_nonneg _ (by decide), Int.fmod_eq_emod_of_nonneg _ (by decide), Int.fmod_eq_emod_of_nonneg _ (by decide)] at h
  have h : ¬ tOK v := h
  simp only [tH, tM, tS, if_neg h, and_self]
theorem okD1 : okDay 1980 1 1 := by simp [okDay]
theorem okDY (v : Int) : okDay (dY v) (dM v) (dD v) := by
  by_cases h : dOK v
  · simp only [dY, dM, dD, if_pos h]; exact h
  · simp only [dY, dM, dD, if_neg h]; exact okD1
theorem okTH (v : Int) : okTime (tH v) (tM v) (tS v) := by
  by_cases h : tOK v
  · simp only [tH, tM, tS, if_pos h]; exact h
  · simp only [tH, tM, tS, if_neg h]; exact okT0
theorem bndD {v : Int} (h0 : 0 ≤ v) (h1 : v < 65536) : 1980 ≤ dY v ∧ dY v ≤ 2107 ∧ 1 ≤ dM v ∧ dM v ≤ 12 ∧ 1 ≤ dD v ∧ dD v ≤ 31 := by
  have h := okDY v
  simp only [okDay] at h
  have : 1980 ≤ dY v ∧ dY v ≤ 2107 := by
    by_cases h : dOK v
    · simp only [dY, if_pos h]; exact ⟨Int.le_add_of_nonneg_right (div7 h0 h1).1, Int.le_trans (Int.add_le_add_left (Int.le_of_lt_add_one (div7 h0 h1).2 : v / 512 ≤ 127) 1980) (by decide)⟩
    · simp only [dY, if_neg h]; decide
  exact ⟨this.1, this.2, h.2.2.1, h.2.2.2.1, h.2.2.2.2.1, h.2.2.2.2.2.1⟩
theorem bndT (v : Int) : 0 ≤ tH v ∧ tH v ≤ 23 ∧ 0 ≤ tM v ∧ tM v ≤ 59 ∧ 0 ≤ tS v ∧ tS v ≤ 59 := okTH v
theorem fillIt (w : World) (h : Heap) : (Mine.hd.heap_39 w.params).In h → PySem.Challenge.rw_jr0027_01 = PySem.Challenge.rw_jr0027_01 := by
  k_fill
  exact fun _ => rfl
theorem tailNe {d : Addr} {l : List (Addr × Obj)} (h : AllLt d l) : ∀ p ∈ l, p.1 ≠ d := by
  induction l with
  | nil => exact fun _ h => nomatch h
  | cons q r ih => intro p hp; rcases List.mem_cons.mp hp with rfl | hp; exact Nat.ne_of_lt h.1; exact ih h.2 p hp
theorem allLtAnd {d : Addr} {l : List (Addr × Obj)} (h : ∀ p ∈ l, p.1 < d) : AllLt d l ∧ True := ⟨allLt_of h, trivial⟩
theorem ltOf {d : Addr} {l : List (Addr × Obj)} (h : AllLt d l) : ∀ p ∈ l, p.1 < d := by
  induction l with
  | nil => exact fun _ h => nomatch h
  | cons q r ih => intro p hp; rcases List.mem_cons.mp hp with rfl | hp; exact h.1; exact ih h.2 p hp
theorem raisedDrop {base G : Heap} {l : List Env} {e t : Addr} {cls : Value} {vs : List Value} {news news' : List (Addr × Obj)} {h : Heap} (R : RaisedS base G l e cls t vs news' h) (hs : ∀ p ∈ news, p ∈ news') : RaisedS base G l e cls t vs news h := by
  obtain ⟨⟨B, a, b, c, d, f⟩, g⟩ := R
  exact ⟨⟨B, a, b, fun q hq => c q (hs q hq), d, f⟩, g⟩
theorem News.drop9 {h₀ h : Heap} {L : Addr} {news news' : List (Addr × Obj)} (N : News h₀ L h news') (hs : ∀ p ∈ news, p ∈ news') : News h₀ L h news := fun p hp => N p (hs p hp)
theorem sub0 {α : Type} {l : List α} : ∀ p ∈ l, p ∈ l := fun _ h => h
theorem sub1 {α : Type} {x : α} {l k : List α} (h : ∀ p ∈ l, p ∈ k) : ∀ p ∈ l, p ∈ x :: k := fun p hp => List.mem_cons_of_mem _ (h p hp)
theorem ifCutN (P : Prop) {M : Model} {A : Around} {E : Value → Shared → Prop} {s : Shared} {test : Expr} {body orelse : List Stmt} {pos : Pos} {env : Env} {Q : Flow → Shared → Prop} {hp : Heap} {tk : Nat}
    (h1 : ∀ Qb : Bool → Shared → Prop, (¬ P → ∀ tk', Qb true { s with heap := hp, toks := tk' }) → (P → ∀ tk', Qb false { s with heap := hp, toks := tk' }) → wpAny M A (PySem.isTrue test env (eval test env)) Qb E { s with heap := hp, toks := tk })
    (h2 : ¬ P → ∀ tk', wpAny M A (execs body env) Q E { s with heap := hp, toks := tk' }) (h3 : P → ∀ tk', wpAny M A (execs orelse env) Q E { s with heap := hp, toks := tk' }) :
    wpAny M A (exec (.If test body orelse pos) env) Q E { s with heap := hp, toks := tk } := wpAny_If (h1 _ (fun hp tk' => by rw [if_pos rfl]; exact h2 hp tk') (fun hn tk' => by rw [if_neg Bool.false_ne_true]; exact h3 hn tk'))
theorem ifCutP (P : Prop) {M : Model} {A : Around} {E : Value → Shared → Prop} {s : Shared} {test : Expr} {body orelse : List Stmt} {pos : Pos} {env : Env} {Q : Flow → Shared → Prop} {hp : Heap} {tk : Nat}
    (h1 : ∀ Qb : Bool → Shared → Prop, (P → ∀ tk', Qb true { s with heap := hp, toks := tk' }) → (¬ P → ∀ tk', Qb false { s with heap := hp, toks := tk' }) → wpAny M A (PySem.isTrue test env (eval test env)) Qb E { s with heap := hp, toks := tk })
    (h2 : P → ∀ tk', wpAny M A (execs body env) Q E { s with heap := hp, toks := tk' }) (h3 : ¬ P → ∀ tk', wpAny M A (execs orelse env) Q E { s with heap := hp, toks := tk' }) :
    wpAny M A (exec (.If test body orelse pos) env) Q E { s with heap := hp, toks := tk } := wpAny_If (h1 _ (fun hp tk' => by rw [if_pos rfl]; exact h2 hp tk') (fun hn tk' => by rw [if_neg Bool.false_ne_true]; exact h3 hn tk'))
structure Later (P : Prop) : Prop where out : P
structure StopAt (l : List Nat) : Prop where
/-- the walk stops at a call of one of these -/
theorem stopIn {l : List Nat} (_ : StopAt l) {M : Model} {A : Around} {E : Value → Shared → Prop} {s : Shared} {n : Addr} {pos : List Value} {kw : List (Str × Value)} {Q : Value → Shared → Prop} (h : l.contains n = true)
    (k : Later (wpAny M A (call (.ref n) pos kw) Q E s)) : wpAny M A (call (.ref n) pos kw) Q E s := k.out
theorem stopL {P : Prop} (k : Later P) : P := k.out
structure CutH : Prop where
theorem stopIf {M : Model} {A : Around} {E : Value → Shared → Prop} {s : Shared} {t : Expr} {b o : List Stmt} {p : Pos} {env : Env} {Q : Flow → Shared → Prop} (k : Later (wpAny M A (exec (.If t b o p) env) Q E s)) : wpAny M A (exec (.If t b o p) env) Q E s := k.out
theorem stopH (_ : CutH) {P : Prop} (k : Later P) : P := k.out
theorem room0 {d a R : Nat} (h : d + a < R) : d < R := Nat.lt_of_le_of_lt (Nat.le_add_right d a) h
theorem room1 {d a b R : Nat} (h : d + a < R) (e : Nat.ble b a = true) : d + b < R := Nat.lt_of_le_of_lt (Nat.add_le_add_left (Nat.le_of_ble_eq_true e) d) h
theorem room2 {d a b c R : Nat} (h : d + a < R) (e : Nat.ble (b + c) a = true) : d + b + c < R := Nat.add_assoc d b c ▸ room1 h e
theorem neG {a b : Nat} (h : b < a) : a ≠ b := Nat.ne_of_gt h
theorem neL {a b : Nat} (h : a < b) : a ≠ b := Nat.ne_of_lt h
theorem leapT1 {y : Int} (h : y.fmod 4 = 0) (k : y.fmod 100 ≠ 0) : leap y := ⟨fmE y 4 (by decide) ▸ h, .inl (fmE y 100 (by decide) ▸ k)⟩
theorem leapT2 {y : Int} (h : y.fmod 4 = 0) (k : y.fmod 400 = 0) : leap y := ⟨fmE y 4 (by decide) ▸ h, .inr (fmE y 400 (by decide) ▸ k)⟩
theorem leapF1 {y : Int} (h : ¬ y.fmod 4 = 0) : ¬ leap y := fun q => h ((fmE y 4 (by decide)).trans q.1)
theorem leapF2 {y : Int} (h : y.fmod 100 = 0) (k : ¬ y.fmod 400 = 0) : ¬ leap y := fun q => q.2.elim (fun e => e ((fmE y 100 (by decide)).symm.trans h)) (fun e => k ((fmE y 400 (by decide)).trans e))
end Mine
end
section
namespace Mine
end Mine
end
section
namespace Mine
section
variable {prog : Program} {w : World} {A₀ A : Around} {s : Shared} {base h₀ g₀ : Heap} {outer : List Env} {L a : Addr} {m : Str → Option Value} {cn : Str} {cs : Scope} {ccd : Value} {cl : List (Str × Addr)} {own news : List (Addr × Obj)} {K : Frag} {p : Program} {loose : List Str} {mean : ExcName → Option Value} {mg mb : Str → Option Value}
  {R : Result → Shared → Prop} {name qual : Str} {params : Arguments} {body : List Stmt} {scope : Scope} {dV kV doc pm cdv ct oc : Value} {an od : Option Addr} {osl : Array (Option Value)} {f : Addr} {args : Args} {binds : List (Str × Value)}
theorem turnFresh {fs : List Addr} {g g' : Heap} (T : KtsTurn fs g g') {b : Addr} (e : g'.get? b = none) : g.get? b = none := by
  cases q : g.get? b with
  | none => rfl
  | some o => obtain ⟨sl, z⟩ := T.up q; rw [z] at e; cases e
theorem staysFresh {g g' : Heap} (T : g.StaysIn g') {b : Addr} (e : g'.get? b = none) : g.get? b = none := by
  cases q : g.get? b with
  | none => rfl
  | some o => have z := T b o q; rw [z] at e; cases e
theorem kts_memX {cn : Str} {cs : Scope} {L a b : Addr} {ccd : Value} {cl : List (Str × Addr)} {outer : List Env} (hm : b ∈ (envX cn cs L a ccd cl :: outer).filterMap (·.frame)) : b = L ∨ b ∈ outer.filterMap (·.frame) := by
  obtain ⟨env, he, hf⟩ := List.mem_filterMap.mp hm
  rcases List.mem_cons.mp he with rfl | he
  · exact .inl (Option.some.inj hf).symm
  · exact .inr (List.mem_filterMap.mpr ⟨env, he, hf⟩)
theorem kts_enterX (B : Below A₀ base outer h₀) (F : Fr h₀ L s.heap m) (N : News h₀ L s.heap own) (hA : A.frames = some (envX cn cs L a ccd cl :: outer)) (hck : cs.kind = .function) :
    ∃ oL es ep, (hideAll s.heap (own.map (·.1))).get? L = some oL ∧ oL.data = .dict es ep ∧ (∀ h', h'.get? L = some oL → Heap.Ns h' L m) ∧ (∀ (sl : Array (Option Value)) h', h'.get? L = some { oL with slots := sl } → Heap.Ns h' L m) ∧
      h₀.StaysIn (hideAll s.heap (own.map (·.1))) ∧ Below A base (envX cn cs L a ccd cl :: outer) (hideAll s.heap (own.map (·.1))) := by
  have nm : ∀ b o, h₀.get? b = some o → b ∉ own.map (·.1) := fun b o e q => by
    obtain ⟨p, hp, rfl⟩ := List.mem_map.mp q
    rw [(N p hp).2.2] at e; cases e
  have st : h₀.StaysIn (hideAll s.heap (own.map (·.1))) := fun b o e => hideAll_get _ (F.keep b o e) (nm b o e)
  have Fns := F.ns
  obtain ⟨oL, es, ep, hL, hLd, hLk, hLf⟩ := F.ns
  have nL : L ∉ own.map (·.1) := fun q => by
    obtain ⟨p, hp, e⟩ := List.mem_map.mp q
    exact (N p hp).2.1 e
  have hLg := hideAll_get (own.map (·.1)) hL nL
  have hnew : base.get? L = none := by
    cases hq : base.get? L with
    | none => rfl
    | some o => exact absurd (Nat.lt_of_lt_of_le (Heap.lt_size (B.stays L o hq)) F.above) (Nat.lt_irrefl _)
  have BF : s.heap.FunFrames base (envX cn cs L a ccd cl :: outer) :=
    .cons (by show cs.kind ≠ .module; rw [hck]; decide) rfl Fns hnew (B.frames.of_keeps fun b o e _ => ⟨o, F.keep b o e, rfl⟩)
  exact ⟨oL, es, ep, hLg, hLd, fun h' e => ⟨oL, es, ep, e, hLd, hLk, hLf⟩, fun sl h' e => ⟨_, es, ep, e, hLd, hLk, hLf⟩, st, ⟨hA, fun b o e => st b o (B.stays b o e), funFrames_hideAll BF fun env he b hb hf => by
    cases he with
    | head => exact nL ((Option.some.inj hf : L = b) ▸ hb)
    | tail _ he =>
      obtain ⟨L₁, o₁, hf₁, ho₁⟩ := funFrames_in B.frames env he
      rw [hf₁] at hf
      exact nm L₁ o₁ ho₁ ((Option.some.inj hf : L₁ = b) ▸ hb)⟩⟩
/-- a call whose body knows of 'own' alone; what else the caller's ledger holds comes back untouched -/
theorem code_defE (B : Below A₀ base outer h₀) (F : Fr h₀ L s.heap m) (X₀ : K.In h₀) (N : News h₀ L s.heap own) (NT : News h₀ L s.heap news) (hoff : ∀ p ∈ news, ∀ q ∈ own, p.1 ≠ q.1) (T : Top p loose mean mg mb h₀)
    (hA : A.frames = some (envX cn cs L a ccd cl :: outer))
    (ho : K.lookup f = some ⟨oc, od, .func (fnOf name qual params body scope dV kV doc pm an cdv ct), osl⟩) (hcd : codeIn K cdv qual = true) (hroom : A.depth < recursionLimit)
    (hbind : BindsTo s (fnOf name qual params body scope dV kV doc pm an cdv ct) args binds) (hloc : ∀ y ∈ binds, scope.names.lookup y.1 = some .local)
    (h : ∀ g L' h₁, Fr h₀ L g m → Fr g L' h₁ (fun y => binds.reverse.lookup y) → News g L' h₁ own → Below A base (envX cn cs L a ccd cl :: outer) g → K.In g → Top p loose mean mg mb g →
      wpAny (model prog w) (A.deeper (envOf qual scope L' f cdv)) (execs body (envOf qual scope L' f cdv))
        (fun fl s' => LeaveK h₀ L m g (fun r s'' => News h₀ L s''.heap news → R r s'') (match fl with | .ret v => v | _ => .none) s')
        (fun e s' => wpAny (model prog w) (A.deeper (envOf qual scope L' f cdv)) (leaving (envOf qual scope L' f cdv) e) (fun _ s'' => R (.error e) s'') (fun e' s'' => R (.error e') s'') s')
        { s with heap := h₁, toks := s.toks + binds.length })
    (hck : cs.kind = .function) (hco : scope.isCoroutine = false) (hgen : scope.isGenerator = false) (hk : scope.kind = .function)
    (hcell : ∀ x ∈ scope.names, x.2 ≠ .cell) : codeAny (model prog w) A (.call (.ref f) args) R s := by
  have X := X₀.keeps F.keep
  refine codeAny_call_def (fd := fnOf name qual params body scope dV kV doc pm an cdv ct) (body := body) (binds := binds) hroom (X _ _ ho) rfl (T.nolimit.keeps F.keep) (codeRec_of X hcd) rfl hbind hcell hloc (fun h₁ hns hk₁ => ?_) hco hgen hk
  obtain ⟨oL, es, ep, hLg, hLd, hN, hNs, st, B₂⟩ := kts_enterX B F N hA hck
  have hT : ∀ p ∈ news, (hideAll s.heap (own.map (·.1))).get? p.1 = some p.2 := fun p hp => hideAll_get _ (NT p hp).1 fun q => by
    obtain ⟨z, hz, e⟩ := List.mem_map.mp q
    exact hoff p hp z hz e.symm
  refine wpAny_mono (h _ s.heap.objs.size h₁ ⟨hN _ hLg, st, F.above⟩ ⟨hns, fun b o e => hk₁ b o (of_hideAll _ e), Nat.le_of_eq (hideAll_size _ _)⟩
    (fun p hp => ⟨hk₁ _ _ (N p hp).1, Nat.ne_of_lt (Heap.lt_size (N p hp).1), hideAll_none _ (List.mem_map_of_mem hp)⟩) B₂ (X₀.keeps st) (T.keeps st)) (fun fl s' hl => ?_) fun _ _ y => y
  obtain ⟨L', m', news', F', N', k⟩ := hl
  refine k ⟨hN _ (F'.keep _ _ hLg), fun b o e => F'.keep b o (st b o e), F.above⟩ (fun p hp => ⟨(N' p hp).1, fun q => ?_, staysFresh st (N' p hp).2.2⟩) (fun p hp => ⟨F'.keep _ _ (hT p hp), (NT p hp).2⟩)
  have := (N' p hp).2.2
  rw [q, hLg] at this
  cases this
/-- the same where the body holds a try (the frames below may be noted) -/
theorem code_defSE (B : Below A₀ base outer h₀) (F : Fr h₀ L s.heap m) (X₀ : K.In h₀) (N : News h₀ L s.heap own) (NT : News h₀ L s.heap news) (hoff : ∀ p ∈ news, ∀ q ∈ own, p.1 ≠ q.1) (T : Top p loose mean mg mb h₀) (XB : K.In base) (TB : Top p loose mean mg mb base) (D : KtsDicts (outer.filterMap (·.frame)) h₀)
    (T0 : KtsTurn (outer.filterMap (·.frame)) g₀ h₀) (hA : A.frames = some (envX cn cs L a ccd cl :: outer))
    (ho : K.lookup f = some ⟨oc, od, .func (fnOf name qual params body scope dV kV doc pm an cdv ct), osl⟩) (hcd : codeIn K cdv qual = true) (hroom : A.depth < recursionLimit)
    (hbind : BindsTo s (fnOf name qual params body scope dV kV doc pm an cdv ct) args binds) (hloc : ∀ y ∈ binds, scope.names.lookup y.1 = some .local)
    (h : ∀ g L' h₁, Fr h₀ L g m → Fr g L' h₁ (fun y => binds.reverse.lookup y) → News g L' h₁ own → Below A base (envX cn cs L a ccd cl :: outer) g → K.In g → Top p loose mean mg mb g → KtsDicts ((envX cn cs L a ccd cl :: outer).filterMap (·.frame)) g →
      wpAny (model prog w) (A.deeper (envOf qual scope L' f cdv)) (execs body (envOf qual scope L' f cdv))
        (fun fl s' => LeaveS ((envX cn cs L a ccd cl :: outer).filterMap (·.frame)) A₀ base outer K p loose mean mg mb g₀ h₀ L m g (fun r s'' => News h₀ L s''.heap news → R r s'') (match fl with | .ret v => v | _ => .none) s')
        (fun e s' => wpAny (model prog w) (A.deeper (envOf qual scope L' f cdv)) (leaving (envOf qual scope L' f cdv) e) (fun _ s'' => R (.error e) s'') (fun e' s'' => R (.error e') s'') s')
        { s with heap := h₁, toks := s.toks + binds.length })
    (hck : cs.kind = .function) (hco : scope.isCoroutine = false) (hgen : scope.isGenerator = false) (hk : scope.kind = .function)
    (hcell : ∀ x ∈ scope.names, x.2 ≠ .cell) : codeAny (model prog w) A (.call (.ref f) args) R s := by
  have X := X₀.keeps F.keep
  refine codeAny_call_def (fd := fnOf name qual params body scope dV kV doc pm an cdv ct) (body := body) (binds := binds) hroom (X _ _ ho) rfl (T.nolimit.keeps F.keep) (codeRec_of X hcd) rfl hbind hcell hloc (fun h₁ hns hk₁ => ?_) hco hgen hk
  obtain ⟨oL, es, ep, hLg, hLd, hN, hNs, st, B₂⟩ := kts_enterX B F N hA hck
  have hT : ∀ p ∈ news, (hideAll s.heap (own.map (·.1))).get? p.1 = some p.2 := fun p hp => hideAll_get _ (NT p hp).1 fun q => by
    obtain ⟨z, hz, e⟩ := List.mem_map.mp q
    exact hoff p hp z hz e.symm
  refine wpAny_mono (h _ s.heap.objs.size h₁ ⟨hN _ hLg, st, F.above⟩ ⟨hns, fun b o e => hk₁ b o (of_hideAll _ e), Nat.le_of_eq (hideAll_size _ _)⟩
    (fun p hp => ⟨hk₁ _ _ (N p hp).1, Nat.ne_of_lt (Heap.lt_size (N p hp).1), hideAll_none _ (List.mem_map_of_mem hp)⟩) B₂ (X₀.keeps st) (T.keeps st) (fun b hb => by
      rcases kts_memX hb with rfl | hb
      · exact ⟨oL, es, ep, hLg, hLd⟩
      · obtain ⟨o, es', n', ho', hd'⟩ := D b hb
        exact ⟨o, es', n', st b o ho', hd'⟩)) (fun fl s' hl => ?_) fun _ _ y => y
  have nL₀ : h₀.get? L = none := kts_self F
  rcases hl with ⟨L', m', news', F', N', k⟩ | ⟨g', L', m', news', T', F', N', k⟩
  · refine k ⟨hN _ (F'.keep _ _ hLg), fun b o e => F'.keep b o (st b o e), F.above⟩ (fun p hp => ⟨(N' p hp).1, fun q => ?_, staysFresh st (N' p hp).2.2⟩) (fun p hp => ⟨F'.keep _ _ (hT p hp), (NT p hp).2⟩)
    have := (N' p hp).2.2
    rw [q, hLg] at this
    cases this
  obtain ⟨sl, hs⟩ := T'.up hLg
  have nfs : ∀ b, b ∈ (envX cn cs L a ccd cl :: outer).filterMap (·.frame) → b = L ∨ b ∈ outer.filterMap (·.frame) := fun b q => kts_memX q
  obtain ⟨T₁, S₁⟩ := kts_turn_at (h := s'.heap) (fs := outer.filterMap (·.frame)) (g := h₀)
    (fun b hb => by
      obtain ⟨_, o, ho', _⟩ := B.frames.mem hb
      exact ⟨o, ho'⟩)
    (fun b o e nmem => F'.keep b o (T'.other b o (st b o e) (fun q => by
      rcases nfs b q with z | z
      · rw [z, nL₀] at e; cases e
      · exact nmem z)))
    (fun b o e hm => by
      obtain ⟨sl', hs'⟩ := T'.up (st b o e)
      exact ⟨sl', F'.keep _ _ hs'⟩)
  have B₃ : Below A₀ base outer (ktsHeap s'.heap (outer.filterMap (·.frame)) h₀) := ⟨B.stack, fun b o e => T₁.other b o (B.stays b o e) (fun hm => by
    rw [(B.frames.mem hm).1] at e
    cases e), B.frames.of_keeps fun b o e _ => by
    obtain ⟨sl', hs'⟩ := T₁.up e
    exact ⟨_, hs', rfl⟩⟩
  refine k _ (T0.trans T₁) ⟨hNs sl _ (F'.keep _ _ hs), S₁, by rw [T₁.size]; exact F.above⟩ (fun p hp => ⟨(N' p hp).1, fun q => ?_, T₁.none_ _ (staysFresh st (turnFresh T' (N' p hp).2.2))⟩) B₃ (XB.keeps B₃.stays) (TB.keeps B₃.stays) (D.turn T₁)
    (fun p hp => ⟨F'.keep _ _ (T'.other _ _ (hT p hp) fun q => ?_), (NT p hp).2⟩)
  · have := (N' p hp).2.2
    rw [q, hs] at this
    cases this
  · rcases nfs _ q with z | z
    · exact (NT p hp).2.1 z
    · obtain ⟨_, o, ho', _⟩ := B.frames.mem z
      rw [(NT p hp).2.2] at ho'
      cases ho'
end
theorem News.app {h₀ h : Heap} {L : Addr} {a b : List (Addr × Obj)} (x : News h₀ L h a) (y : News h₀ L h b) : News h₀ L h (a ++ b) := fun p hp => (List.mem_append.mp hp).elim (x p) (y p)
theorem News.nil9 {h₀ h : Heap} {L : Addr} : News h₀ L h [] := fun p hp => nomatch hp
theorem News.turn9 {fs : List Addr} {h₀ h₁ h : Heap} {L : Addr} {b : List (Addr × Obj)} (T : KtsTurn fs h₀ h₁) (y : News h₀ L h b) : News h₁ L h b := fun p hp => ⟨(y p hp).1, (y p hp).2.1, T.none_ _ (y p hp).2.2⟩
/-- without frames below, a turned base is the base -/
theorem Fr.unturn {h₀ h₁ h : Heap} {L : Addr} {m : Str → Option Value} (T : KtsTurn [] h₀ h₁) (F : Fr h₁ L h m) : Fr h₀ L h m := ⟨F.ns, fun b o e => F.keep b o (T.other b o e (by simp)), by rw [← T.size]; exact F.above⟩
theorem News.unturn {h₀ h₁ h : Heap} {L : Addr} {b : List (Addr × Obj)} (T : KtsTurn [] h₀ h₁) (y : News h₁ L h b) : News h₀ L h b := fun p hp => ⟨(y p hp).1, (y p hp).2.1, turnFresh T (y p hp).2.2⟩
theorem offNilL {own : List (Addr × Obj)} : ∀ p ∈ ([] : List (Addr × Obj)), ∀ q ∈ own, p.1 ≠ q.1 := fun _ h => nomatch h
theorem offNil {news : List (Addr × Obj)} : ∀ p ∈ news, ∀ q ∈ ([] : List (Addr × Obj)), p.1 ≠ q.1 := fun _ _ _ h => nomatch h
end Mine
end
section
namespace Mine
theorem subNil {α : Type} {k : List α} : ∀ p ∈ ([] : List α), p ∈ k := fun _ h => nomatch h
theorem sub1L {a : Addr × Obj} {news : List (Addr × Obj)} (ha : a ∈ news) : ∀ q ∈ [a], q ∈ news := subC ha subNil
def restOf (own news : List (Addr × Obj)) : List (Addr × Obj) := news.filter fun p => own.all fun q => p.1 != q.1
theorem News.rest {h₀ h : Heap} {L : Addr} {own news : List (Addr × Obj)} (N : News h₀ L h news) : News h₀ L h (restOf own news) := fun p hp => N p (List.mem_filter.mp hp).1
theorem off_rest {own news : List (Addr × Obj)} : ∀ p ∈ restOf own news, ∀ q ∈ own, p.1 ≠ q.1 := fun p hp q hq => by
  have := List.all_eq_true.mp (List.mem_filter.mp hp).2 q hq
  simpa using this
theorem News.whole {h₀ h₁ h h' : Heap} {L : Addr} {own news : List (Addr × Obj)} (N : News h₀ L h news) (hs : ∀ q ∈ own, q ∈ news) (No : News h₁ L h' own) (Nr : News h₁ L h' (restOf own news)) : News h₁ L h' news := fun p hp => by
  by_cases e : (own.all fun q => p.1 != q.1) = true
  · exact Nr p (List.mem_filter.mpr ⟨hp, e⟩)
  · have : ∃ q ∈ own, p.1 = q.1 := by simpa using e
    obtain ⟨q, hq, e⟩ := this
    have h1 := (N p hp).1
    have h2 := (N q (hs q hq)).1
    rw [e, h2] at h1
    have : p = q := Prod.ext e (Option.some.inj h1).symm
    exact this ▸ No q hq
theorem sub2 {a b : Addr × Obj} {news : List (Addr × Obj)} (ha : a ∈ news) (hb : b ∈ news) : ∀ q ∈ [a, b], q ∈ news := subC ha (subC hb subNil)
theorem sub4 {a b c d : Addr × Obj} {news : List (Addr × Obj)} (ha : a ∈ news) (hb : b ∈ news) (hc : c ∈ news) (hd : d ∈ news) : ∀ q ∈ [a, b, c, d], q ∈ news := subC ha (subC hb (subC hc (subC hd subNil)))
theorem callWith_K9 {M : Model} {A : Around} {E : Value → Shared → Prop} {s : Shared} {K : Frag} {env : Env} {pos : Pos} {f : Value} {first : List Value} {Q : Value → Shared → Prop} {h₀ : Heap} {L : Addr} {m : Str → Option Value}
    (F : Fr h₀ L s.heap m) (X : K.In h₀) (hk : keepIn K f = true) (h : wpAny M A (call f (first ++ [])) Q E s) : wpAny M A (callWith pos f first (backTo pos (starEach [] env)) []) Q E s := callWith_K0 (X.keeps F.keep) hk h
/-- what the ledger holds of a date's or a time's own dict -/
def IsDate (w : World) (o : Obj) (y mo d h mi s : Int) : Prop := ∃ k1 k2 k3 k4 k5 k6 t1 t2 t3 t4 t5 t6, o = dateD w k1 k2 k3 k4 k5 k6 (.int y t1) (.int mo t2) (.int d t3) (.int h t4) (.int mi t5) (.int s t6)
def IsTime (w : World) (o : Obj) (h mi s : Int) : Prop := ∃ k1 k2 k3 t1 t2 t3, o = timeD w k1 k2 k3 (.int h t1) (.int mi t2) (.int s t3)
end Mine
end
section
local macro_rules | `(tactic| k_room) => `(tactic| first | exact Mine.room2 (by assumption) (by rfl) | exact Mine.room1 (by assumption) (by rfl) | exact Mine.room0 (by assumption) | ktr_room)
local macro_rules | `(tactic| k_ne) => `(tactic| first | (k_whole; first | exact Mine.neG (by assumption) | exact Mine.neL (by assumption) | ((with_reducible rename @LT.lt Nat _ _ _ ∧ _ => h9); first | (refine Mine.neG ?_; simp only [h9]; done) | (refine Mine.neL ?_; simp only [h9]; done) | (clear h9; (with_reducible rename @LT.lt Nat _ _ _ ∧ _ => h9); first | (refine Mine.neG ?_; simp only [h9]; done) | (refine Mine.neL ?_; simp only [h9]; done)))) | (refine neN ?_; (try dsimp only); omega))
local macro_rules | `(tactic| walk_at "ite") => `(tactic| (k_closed; (with_reducible (first | refine ite_pos (by decide) ?_ | refine ite_neg (by decide) ?_)); (try dsimp only)))
local macro_rules | `(tactic| walk_at "eval Call") => `(tactic| (k_here; (with_reducible show wpAny _ _ (eval (Expr.Call (Expr.Name _ _) _ [] _) _) _ _ _); k_dflt (refine Call_ ?_)))
local macro_rules | `(tactic| walk_at "call ref") => `(tactic| (refine Mine.stopIn (by assumption) (by decide) ?_))
section
namespace Mine
local macro_rules | `(tactic| k_lt $h) => `(tactic| (replace $h := allLtAnd $h; (try simp only [AllLt, and_true] at $h:ident); (repeat (have hlt := And.left $h; replace $h := And.right $h))))
local macro_rules | `(tactic| k_steps) => `(tactic| repeat' (first | (k_unfold; (try dsimp only)) | (k_end; wrow_close) | (walk1; (all_goals (try (conv => arg 6; dsimp only)))) | (dsimp only; walk1) | (leave1; walk_say "STEP leave1"; try dsimp only) | fail "no step"))
local macro_rules | `(tactic| k_all) => `(tactic| exact tailNe (by assumption))
local macro_rules | `(tactic| walk_at "eval Constant int") => `(tactic| (k_here; (with_reducible refine wpAny_Constant_int ?_); (try dsimp only)))
local macro_rules | `(tactic| walk_at "subscriptTail") => `(tactic| (k_here; (with_reducible show wpAny _ _ (subscriptTail _ _ (Value.ref _) (Value.int _ _)) _ _ _); k_dflt (refine' item_tupleT ?t ?a ?b ?c ?d ?_; (case t => exact News.isTup (by k_asm) (by k_mem)); (case a => decide); (case b => decide); (case c => rfl); (case d => rfl); k_whole); (try dsimp only)))
local macro_rules | `(tactic| walk_at "exec If") => `(tactic| (refine stopIf ?_))
local macro_rules | `(tactic| walk_at "exec Raise some none") => `(tactic| (refine stopH (by assumption) ?_))
set_option maxRecDepth 100000 in
set_option maxHeartbeats 8000000 in
theorem cDosTime {w : World} {mean : ExcName → Option Value} {mg mb : Str → Option Value} {dp un : Nat} {gd : Option (List Code)} {cn : Str} {nm : List (Str × NameKind)} {ig ic : Bool} {mo : List (Str × Const)} {a : Addr} {ccd : Value} {cl : List (Str × Addr)} {outer : List Env} {A₀ : Around} {base h₀ : Heap} {L : Addr} {m : Str → Option Value} {news : List (Addr × Obj)} {s : Shared} {Q E : Value → Shared → Prop} {hd : Option Value}
  (B : Below A₀ base outer h₀) (F : Fr h₀ L s.heap m) (X : (Mine.hd.heap_39 w.params).In h₀) (N : News h₀ L s.heap news) (T : Top topProg LOOSE mean mg mb h₀) (hdp : dp + 4 < recursionLimit)
  {h mi sec : Int} {t1 t2 t3 : Tok} 
  (ok : okTime h mi sec → ∀ x dx k1 k2 k3 h' tk', Fr h₀ L h' m → News h₀ L h' ((x, instObj 38 dx) :: (dx, timeD w k1 k2 k3 (.int h t1) (.int mi t2) (.int sec t3)) :: news) → (∀ p ∈ news, p.1 < dx) → dx < x → Q (.ref x) { s with heap := h', toks := tk' })
  (bad : ¬ okTime h mi sec → ∀ g e t vs h' tk', Fr h₀ L g m → RaisedS base g (envX cn ⟨.function, nm, ig, ic, mo⟩ L a ccd cl :: outer) e (.type "ValueError") t vs news h' → g.UpToSlots h' → E (.ref e) { s with heap := h', toks := tk' })
  (hh : ¬ okTime h mi sec → hd = none := by exact fun _ => rfl)
  : wpAny (model PySem.Challenge.rw_jr0027_01.row.prog w) (aT hd dp un gd cn ⟨.function, nm, ig, ic, mo⟩ L a ccd cl outer) (call (.ref 38) [.int h t1, .int mi t2, .int sec t3]) Q E s := by
  have kd := ktsDicts_nil (g := h₀)
  have mk7 : CutH := ⟨⟩
  (refine' call_cls ?k1 ?k2 ?k3 ?k4 ?k5 ?k6 ?_; (case k1 => k_asm); (case k2 => k_asm); (case k3 => k_asm); (case k4 => k_is); (case k5 => k_is); (case k6 => k_is); k_whole; intro x' d' h' F' N' l1 l2; (try k_lt l1); (try k_lt2 l2); (try k_sweep))
  (refine' code_def (binds := [((Str.ofString "self"), .ref x'), ((Str.ofString "hour"), .int h t1), ((Str.ofString "minute"), .int mi t2), ((Str.ofString "second"), .int sec t3)]) ?k1 ?k2 ?k3 ?k4 ?k5 ?kA ?kF ?kK ?k6 ?k7 ?k8 ?k9 ?kB ?_ ?c2 ?c3 ?c4 ?c5; (case kA => exact rfl); (case kF => exact rfl); (case kK => exact rfl); (case k1 => k_asm); (case k2 => k_asm); (case k3 => k_asm); (case k4 => k_asm); (case k5 => k_asm); (case k6 => k_is); (case k7 => k_is); (case k8 => k_room); (case k9 => first | exact BindsTo.of_eq rfl | exact binds_K (by k_in) rfl (by k_is) rfl rfl rfl | fail "k_enter: no rule for these arguments"); (case c5 => decide); (case kB => exact locs rfl); (case c2 => exact rfl); (case c3 => exact rfl); (case c4 => exact rfl); k_whole; intro g' L' h' FG' F' N' B' X' T'; (try dsimp only); (try k_lift B'); (try k_fold))
  k_steps
  repeat' (refine Later.mk ?_; (first | ((with_reducible refine ifCutN (okTime h mi sec) (fun Qb hcT hcF => ?_) (fun hcut tk' => ?_) (fun hcut tk' => ?_)); all_goals (try dsimp only)) | (have e9 := hh (by assumption); subst e9; clear mk7)); k_steps)
  all_goals first
    | (replace ok := ok (by assumption); (refine' ok _ _ _ _ _ _ _ ?z9f ?z9n ?z9l ?z9x; (case z9n => assumption); (case z9f => assumption); (case z9l => exact ltOf (by assumption)); (case z9x => assumption)))
    | (dsimp only [InitBack]; (refine' bad ?z9p _ _ _ _ _ _ ?z9f (raisedDrop ?z9r ?z9d) ?z9u); (case z9p => assumption); (case z9r => assumption); (case z9f => assumption); (case z9d => exact (sub1 (sub1 sub0))); (case z9u => assumption))
    | ((try dsimp only); first | ((rename (okTime _ _ _ → ∀ _, _) => hcF); exact hcF ⟨by assumption, by assumption, by assumption, by assumption, by assumption, by assumption⟩ _) | ((rename (¬ _ → ∀ _, _) => hcT); exact hcT (by first | exact fun hc => absurd hc.1 (by assumption) | exact fun hc => absurd hc.2.1 (by assumption) | exact fun hc => absurd hc.2.2.1 (by assumption) | exact fun hc => absurd hc.2.2.2.1 (by assumption) | exact fun hc => absurd hc.2.2.2.2.1 (by assumption) | exact fun hc => absurd hc.2.2.2.2.2 (by assumption)) _))
theorem cDosTime0 {w : World} {mean : ExcName → Option Value} {mg mb : Str → Option Value} {dp un : Nat} {gd : Option (List Code)} {cn : Str} {nm : List (Str × NameKind)} {ig ic : Bool} {mo : List (Str × Const)} {a : Addr} {ccd : Value} {cl : List (Str × Addr)} {outer : List Env} {A₀ : Around} {base h₀ : Heap} {L : Addr} {m : Str → Option Value} {news : List (Addr × Obj)} {s : Shared} {Q E : Value → Shared → Prop} {hd : Option Value}
  (B : Below A₀ base outer h₀) (F : Fr h₀ L s.heap m) (X : (Mine.hd.heap_39 w.params).In h₀) (N : News h₀ L s.heap news) (T : Top topProg LOOSE mean mg mb h₀) (hdp : dp + 4 < recursionLimit)
  {t1 t2 t3 : Tok} 
  (ok : ∀ x dx k1 k2 k3 h' tk', Fr h₀ L h' m → News h₀ L h' ((x, instObj 38 dx) :: (dx, timeD w k1 k2 k3 (.int 0 t1) (.int 0 t2) (.int 0 t3)) :: news) → (∀ p ∈ news, p.1 < dx) → dx < x → Q (.ref x) { s with heap := h', toks := tk' })
  : wpAny (model PySem.Challenge.rw_jr0027_01.row.prog w) (aT hd dp un gd cn ⟨.function, nm, ig, ic, mo⟩ L a ccd cl outer) (call (.ref 38) [.int 0 t1, .int 0 t2, .int 0 t3]) Q E s := by
  exact cDosTime B F X N T hdp (fun _ => ok) (fun hn => absurd okT0 hn) (fun hn => absurd okT0 hn)
theorem Fr.over {h₀ h : Heap} {L : Addr} {x : Str} {v u : Option Value} {m : Str → Option Value} (F : Fr h₀ L h (fun y => if y = x then v else if y = x then u else m y)) : Fr h₀ L h (fun y => if y = x then v else m y) := by
  have e : (fun y => if y = x then v else if y = x then u else m y) = (fun y => if y = x then v else m y) := funext fun y => by by_cases h : y = x <;> simp [h]
  exact e ▸ F
def DaysDone (s₁ : Shared) (g : Heap) (L : Addr) (m : Str → Option Value) (news : List (Addr × Obj)) (y mo' : Int) (f : Flow) (s' : Shared) : Prop :=
  ∃ D t h' tk', f = .next ∧ s' = { s₁ with heap := h', toks := tk' } ∧ Fr g L h' (fun z => if z = Str.ofString "days" then some (.int D t) else m z) ∧ News g L h' news ∧ (mo' = 2 ∧ leap y → D = 29) ∧ (¬ (mo' = 2 ∧ leap y) → D = menu12 mo')
theorem daysMk {s : Shared} {g h' : Heap} {L : Addr} {m : Str → Option Value} {news : List (Addr × Obj)} {y mo' D : Int} {t : Tok} {tk' : Nat} (F : Fr g L h' (fun z => if z = Str.ofString "days" then some (.int D t) else m z)) (N : News g L h' news) (d1 : mo' = 2 ∧ leap y → D = 29) (d2 : ¬ (mo' = 2 ∧ leap y) → D = menu12 mo') : DaysDone s g L m news y mo' .next { s with heap := h', toks := tk' } :=
  ⟨D, t, h', tk', rfl, rfl, F, N, d1, d2⟩
theorem daysOut {s s' : Shared} {g : Heap} {L : Addr} {m : Str → Option Value} {news : List (Addr × Obj)} {y mo' : Int} {f : Flow} {Q : Flow → Shared → Prop} (hd : DaysDone s g L m news y mo' f s')
    (k : ∀ D t h' tk', Fr g L h' (fun z => if z = Str.ofString "days" then some (.int D t) else m z) → News g L h' news → (mo' = 2 ∧ leap y → D = 29) → (¬ (mo' = 2 ∧ leap y) → D = menu12 mo') → Q .next { s with heap := h', toks := tk' }) : Q f s' := by
  obtain ⟨D, t, h', tk', rfl, rfl, F, N, d1, d2⟩ := hd
  exact k D t h' tk' F N d1 d2
theorem ifDays {M : Model} {A : Around} {E : Value → Shared → Prop} {s : Shared} {test : Expr} {body : List Stmt} {pos : Pos} {env : Env} {Q : Flow → Shared → Prop} {hp : Heap} {tk : Nat} {g : Heap} {L : Addr} {m : Str → Option Value} {news : List (Addr × Obj)} {y mo' : Int}
    (h1 : ∀ Qb : Bool → Shared → Prop, (mo' = 2 ∧ leap y → ∀ tk', Qb true { s with heap := hp, toks := tk' }) → (¬ (mo' = 2 ∧ leap y) → ∀ tk', Qb false { s with heap := hp, toks := tk' }) → wpAny M A (PySem.isTrue test env (eval test env)) Qb E { s with heap := hp, toks := tk })
    (h2 : mo' = 2 ∧ leap y → ∀ tk', wpAny M A (execs body env) (DaysDone s g L m news y mo') E { s with heap := hp, toks := tk' })
    (h3 : ¬ (mo' = 2 ∧ leap y) → ∀ tk', DaysDone s g L m news y mo' .next { s with heap := hp, toks := tk' })
    (h4 : ∀ D t h' tk', Fr g L h' (fun z => if z = Str.ofString "days" then some (.int D t) else m z) → News g L h' news → (mo' = 2 ∧ leap y → D = 29) → (¬ (mo' = 2 ∧ leap y) → D = menu12 mo') → Q .next { s with heap := h', toks := tk' }) :
    wpAny M A (exec (.If test body [] pos) env) Q E { s with heap := hp, toks := tk } :=
  ifCutP (mo' = 2 ∧ leap y) h1 (fun hp tk' => wpAny_mono (h2 hp tk') (fun f s' hd => daysOut hd h4) fun _ _ e => e)
    (fun hn tk' => wpAny_execs_nil (daysOut (h3 hn tk') h4))
theorem goodDayD {y m d D : Int} (h1 : 1 ≤ y ∧ y ≤ 9999 ∧ 1 ≤ m ∧ m ≤ 12 ∧ 1 ≤ d) (e1 : m = 2 ∧ leap y → D = 29) (e2 : ¬ (m = 2 ∧ leap y) → D = menu12 m) (hd : d ≤ D) : okDay y m d := by
  by_cases h : m = 2 ∧ leap y
  · exact goodDay1 h1 h (e1 h ▸ hd)
  · exact goodDay2 h1 h (e2 h ▸ hd)
theorem badDayD {y m d D : Int} (h1 : 1 ≤ y ∧ y ≤ 9999 ∧ 1 ≤ m ∧ m ≤ 12 ∧ 1 ≤ d) (e1 : m = 2 ∧ leap y → D = 29) (e2 : ¬ (m = 2 ∧ leap y) → D = menu12 m) (hd : ¬ d ≤ D) : ¬ okDay y m d := by
  by_cases h : m = 2 ∧ leap y
  · exact badDay1 h (e1 h ▸ hd)
  · exact badDay2 h h1 (e2 h ▸ hd)
set_option maxRecDepth 100000 in
set_option maxHeartbeats 8000000 in
theorem cDate {w : World} {mean : ExcName → Option Value} {mg mb : Str → Option Value} {dp un : Nat} {gd : Option (List Code)} {cn : Str} {nm : List (Str × NameKind)} {ig ic : Bool} {mo : List (Str × Const)} {a : Addr} {ccd : Value} {cl : List (Str × Addr)} {outer : List Env} {A₀ : Around} {base h₀ : Heap} {L : Addr} {m : Str → Option Value} {news : List (Addr × Obj)} {s : Shared} {Q E : Value → Shared → Prop} {hd : Option Value}
  (B : Below A₀ base outer h₀) (F : Fr h₀ L s.heap m) (X : (Mine.hd.heap_39 w.params).In h₀) (N : News h₀ L s.heap news) (T : Top topProg LOOSE mean mg mb h₀) (hdp : dp + 8 < recursionLimit)
  {y mo' d h mi sec : Int} {t1 t2 t3 t4 t5 t6 : Tok} {args : List Value} {oc : Value} {od : Option Addr} {osl : Array (Option Value)} {fd : FuncData} (hfd : (Mine.hd.heap_39 w.params).lookup 57 = some ⟨oc, od, .func fd, osl⟩) (hb : ∀ (s : Shared) (x : Addr), (Mine.hd.heap_39 w.params).In s.heap → BindsTo s fd ⟨.ref x :: args, []⟩ [(Str.ofString "self", .ref x), (Str.ofString "year", .int y t1), (Str.ofString "month", .int mo' t2), (Str.ofString "day", .int d t3), (Str.ofString "hour", .int h t4), (Str.ofString "minute", .int mi t5), (Str.ofString "second", .int sec t6)])
  (ok : okDay y mo' d → okTime h mi sec → ∀ x dx k1 k2 k3 k4 k5 k6 h' tk', Fr h₀ L h' m → News h₀ L h' ((x, instObj 104 dx) :: (dx, dateD w k1 k2 k3 k4 k5 k6 (.int y t1) (.int mo' t2) (.int d t3) (.int h t4) (.int mi t5) (.int sec t6)) :: news) → (∀ p ∈ news, p.1 < dx) → dx < x → Q (.ref x) { s with heap := h', toks := tk' })
  (bad : ¬ (okDay y mo' d ∧ okTime h mi sec) → ∀ g e t vs h' tk', Fr h₀ L g m → RaisedS base g (envX cn ⟨.function, nm, ig, ic, mo⟩ L a ccd cl :: outer) e (.type "ValueError") t vs news h' → g.UpToSlots h' → E (.ref e) { s with heap := h', toks := tk' })
  (hh : ¬ (okDay y mo' d ∧ okTime h mi sec) → hd = none := by exact fun _ => rfl)
  : wpAny (model PySem.Challenge.rw_jr0027_01.row.prog w) (aT hd dp un gd cn ⟨.function, nm, ig, ic, mo⟩ L a ccd cl outer) (call (.ref 104) args) Q E s := by
  have mkS : StopAt [38] := ⟨⟩
  have kd := ktsDicts_nil (g := h₀)
  have mk7 : CutH := ⟨⟩
  (refine' call_cls ?k1 ?k2 ?k3 ?k4 ?k5 ?k6 ?_; (case k1 => k_asm); (case k2 => k_asm); (case k3 => k_asm); (case k4 => k_is); (case k5 => k_is); (case k6 => k_is); k_whole; intro x' d' h' F' N' l1 l2; (try k_lt l1); (try k_lt2 l2); (try k_sweep))
  (refine' code_def (binds := [((Str.ofString "self"), .ref x'), ((Str.ofString "year"), .int y t1), ((Str.ofString "month"), .int mo' t2), ((Str.ofString "day"), .int d t3), ((Str.ofString "hour"), .int h t4), ((Str.ofString "minute"), .int mi t5), ((Str.ofString "second"), .int sec t6)]) ?k1 ?k2 ?k3 ?k4 ?k5 ?kA ?kF ?kK ?k6 ?k7 ?k8 ?k9 ?kB ?_ ?c2 ?c3 ?c4 ?c5; (case kA => exact rfl); (case kF => exact rfl); (case kK => exact rfl); (case k1 => k_asm); (case k2 => k_asm); (case k3 => k_asm); (case k4 => k_asm); (case k5 => k_asm); (case k6 => k_is); (case k7 => k_is); (case k8 => k_room); (case k9 => (refine' bindsOf hfd ?z9ho (hb _ _ (by k_in)); (case z9ho => k_is))); (case c5 => decide); (case kB => exact locs rfl); (case c2 => exact rfl); (case c3 => exact rfl); (case c4 => exact rfl); k_whole; intro g' L' h' FG' F' N' B' X' T'; (try dsimp only); (try k_lift B'); (try k_fold))
  k_steps
  repeat' (refine Later.mk ?_; (first
    | ((with_reducible show wpAny _ _ (exec (Stmt.If (Expr.UnaryOp _ _ _) _ _ _) _) _ _ _); (with_reducible refine ifCutN (1 ≤ y ∧ y ≤ 9999 ∧ 1 ≤ mo' ∧ mo' ≤ 12 ∧ 1 ≤ d) (fun Qb hcT hcF => ?_) (fun hcut tk' => ?_) (fun hcut tk' => ?_)); all_goals (try dsimp only))
    | ((with_reducible show wpAny _ _ (exec (Stmt.If (Expr.BoolOp _ _ _) _ _ _) _) _ _ _); (with_reducible rename News _ _ _ (_ :: _) => n9); replace n9 := News.drop9 n9 (sub1 sub0); (with_reducible refine ifDays (y := y) (mo' := mo') (g := g') (L := L') (m := fun z => List.lookup z ([(Str.ofString "self", .ref x'), (Str.ofString "year", .int y t1), (Str.ofString "month", .int mo' t2), (Str.ofString "day", .int d t3), (Str.ofString "hour", .int h t4), (Str.ofString "minute", .int mi t5), (Str.ofString "second", .int sec t6)].reverse)) (news := (x', instObj 104 d') :: (d', dictOf [] 0) :: news) (fun Qb hcT hcF => ?_) (fun hcut9 tk' => ?_) (fun hcut9 tk' => daysMk (by assumption) n9 (fun q => absurd q hcut9) (fun _ => rfl)) (fun D9 t9 h9 tk9 F9 N9 hD1 hD2 => ?_)); all_goals (try dsimp only))
    | ((with_reducible show wpAny _ _ (exec (Stmt.If _ _ _ _) _) _ _ _); (with_reducible refine ifCutN (d ≤ D9) (fun Qb hcT hcF => ?_) (fun hcut tk' => ?_) (fun hcut tk' => ?_)); all_goals (try dsimp only))
    | ((have e9 := hh (by first | exact fun hc => badDay0 (by assumption) hc.1 | exact fun hc => badDayD (by assumption) (by assumption) (by assumption) (by assumption) hc.1)); subst e9; clear mk7)
    | (k_dflt (refine' cDosTime ?z9B ?z9F ?z9X ?z9N ?z9T ?z9d (fun hok' x' d' k1' k2' k3' h' tk' F' N' l1 l2 => ?_) (fun hnt' g' e' t' vs' h' tk' F' R' U' => ?_) (fun hnt' => hh (fun hc => hnt' hc.2)); (case z9B => k_asm); (case z9F => k_asm); (case z9X => k_asm); (case z9N => k_asm); (case z9T => k_asm); (case z9d => k_room); (all_goals k_whole)); (all_goals (try ((have e9 := hh (fun hc => hnt' hc.2)); subst e9))); (all_goals ((try k_lt l1); (try k_lt2 l2); (try k_sweep); (try dsimp only))))); k_steps)
  all_goals first
    | ((try dsimp only); first
      | exact hcF ⟨by assumption, by assumption, by assumption, by assumption, by assumption⟩ _
      | exact hcT (by first | exact fun hc => absurd hc.1 (by assumption) | exact fun hc => absurd hc.2.1 (by assumption) | exact fun hc => absurd hc.2.2.1 (by assumption) | exact fun hc => absurd hc.2.2.2.1 (by assumption) | exact fun hc => absurd hc.2.2.2.2 (by assumption)) _
      | exact hcT ⟨by assumption, leapT1 (by assumption) (by assumption)⟩ _
      | exact hcT ⟨by assumption, leapT2 (by assumption) (by assumption)⟩ _
      | exact hcF (fun hc => absurd hc.1 (by assumption)) _
      | exact hcF (fun hc => absurd hc.2 (leapF1 (by assumption))) _
      | exact hcF (fun hc => absurd hc.2 (leapF2 (by assumption) (by assumption))) _)
    | (exact daysMk (Fr.over (by assumption)) (by assumption) (fun _ => rfl) (fun q => absurd hcut9 q))
    | (by_cases hz9 : d ≤ D9
       · rw [decide_eq_false (Int.not_lt.mpr hz9)]; exact hcF hz9 _
       · rw [decide_eq_true (Int.not_le.mp hz9)]; exact hcT hz9 _)
    | ((replace ok := ok (goodDayD (by assumption) hD1 hD2 (by assumption)) (by assumption)); refine' ok _ _ _ _ _ _ _ _ _ _ ?z9f (News.drop9 ?z9n ?z9d) ?z9l ?z9x; (case z9n => assumption); (case z9d => exact (subC (by k_mem) (subC (by k_mem) (by repeat (first | exact sub0 | refine sub1 ?_))))); (case z9f => assumption); (case z9l => exact ltOf (by assumption)); (case z9x => assumption))
    | (dsimp only [InitBack]; (refine' bad ?z9p _ _ _ _ _ _ ?z9f (raisedDrop ?z9r ?z9d) ?z9u); (case z9p => first | exact fun hc => badDay0 (by assumption) hc.1 | exact fun hc => absurd hc.2 (by assumption) | exact fun hc => badDayD (by assumption) hD1 hD2 (by assumption) hc.1); (case z9r => assumption); (case z9f => assumption); (case z9d => repeat (first | exact sub0 | refine sub1 ?_)); (case z9u => assumption))
    | skip
set_option maxRecDepth 100000 in
set_option maxHeartbeats 8000000 in
theorem cDate0 {w : World} {mean : ExcName → Option Value} {mg mb : Str → Option Value} {dp un : Nat} {gd : Option (List Code)} {cn : Str} {nm : List (Str × NameKind)} {ig ic : Bool} {mo : List (Str × Const)} {a : Addr} {ccd : Value} {cl : List (Str × Addr)} {outer : List Env} {A₀ : Around} {base h₀ : Heap} {L : Addr} {m : Str → Option Value} {news : List (Addr × Obj)} {s : Shared} {Q E : Value → Shared → Prop} {hd : Option Value}
  (B : Below A₀ base outer h₀) (F : Fr h₀ L s.heap m) (X : (Mine.hd.heap_39 w.params).In h₀) (N : News h₀ L s.heap news) (T : Top topProg LOOSE mean mg mb h₀) (hdp : dp + 8 < recursionLimit)
  {t1 t2 t3 : Tok} 
  (ok : ∀ x dx k1 k2 k3 k4 k5 k6 t4 t5 t6 h' tk', Fr h₀ L h' m → News h₀ L h' ((x, instObj 104 dx) :: (dx, dateD w k1 k2 k3 k4 k5 k6 (.int 1980 t1) (.int 1 t2) (.int 1 t3) (.int 0 t4) (.int 0 t5) (.int 0 t6)) :: news) → (∀ p ∈ news, p.1 < dx) → dx < x → Q (.ref x) { s with heap := h', toks := tk' })
  : wpAny (model PySem.Challenge.rw_jr0027_01.row.prog w) (aT hd dp un gd cn ⟨.function, nm, ig, ic, mo⟩ L a ccd cl outer) (call (.ref 104) [.int 1980 t1, .int 1 t2, .int 1 t3]) Q E s := by
  refine' cDate B F X N T hdp ?z9f ?z9h (fun _ _ x dx k1 k2 k3 k4 k5 k6 => ok x dx k1 k2 k3 k4 k5 k6 241 242 243) (fun hn => absurd ⟨okD1, okT0⟩ hn) (fun hn => absurd ⟨okD1, okT0⟩ hn)
  (case z9f => k_is)
  (case z9h => exact (fun s9 x9 X9 => binds_K X9 rfl (by k_is) rfl rfl rfl))
set_option maxRecDepth 100000 in
set_option maxHeartbeats 8000000 in
theorem cDate3 {w : World} {mean : ExcName → Option Value} {mg mb : Str → Option Value} {dp un : Nat} {gd : Option (List Code)} {cn : Str} {nm : List (Str × NameKind)} {ig ic : Bool} {mo : List (Str × Const)} {a : Addr} {ccd : Value} {cl : List (Str × Addr)} {outer : List Env} {A₀ : Around} {base h₀ : Heap} {L : Addr} {m : Str → Option Value} {news : List (Addr × Obj)} {s : Shared} {Q E : Value → Shared → Prop}
  (B : Below A₀ base outer h₀) (F : Fr h₀ L s.heap m) (X : (Mine.hd.heap_39 w.params).In h₀) (N : News h₀ L s.heap news) (T : Top topProg LOOSE mean mg mb h₀) (hdp : dp + 8 < recursionLimit)
  {y mo' d : Int} {t1 t2 t3 : Tok} 
  (ok : okDay y mo' d → okTime 0 0 0 → ∀ x dx k1 k2 k3 k4 k5 k6 h' tk', Fr h₀ L h' m → News h₀ L h' ((x, instObj 104 dx) :: (dx, dateD w k1 k2 k3 k4 k5 k6 (.int y t1) (.int mo' t2) (.int d t3) (.int 0 241) (.int 0 242) (.int 0 243)) :: news) → (∀ p ∈ news, p.1 < dx) → dx < x → Q (.ref x) { s with heap := h', toks := tk' })
  (bad : ¬ (okDay y mo' d ∧ okTime 0 0 0) → ∀ g e t vs h' tk', Fr h₀ L g m → RaisedS base g (envX cn ⟨.function, nm, ig, ic, mo⟩ L a ccd cl :: outer) e (.type "ValueError") t vs news h' → g.UpToSlots h' → E (.ref e) { s with heap := h', toks := tk' })
  : wpAny (model PySem.Challenge.rw_jr0027_01.row.prog w) (aT none dp un gd cn ⟨.function, nm, ig, ic, mo⟩ L a ccd cl outer) (call (.ref 104) [.int y t1, .int mo' t2, .int d t3]) Q E s := by
  refine' cDate B F X N T hdp ?z9f ?z9h ok bad
  (case z9f => k_is)
  (case z9h => exact (fun s9 x9 X9 => binds_K X9 rfl (by k_is) rfl rfl rfl))
set_option maxRecDepth 100000 in
set_option maxHeartbeats 8000000 in
theorem cDate6 {w : World} {mean : ExcName → Option Value} {mg mb : Str → Option Value} {dp un : Nat} {gd : Option (List Code)} {cn : Str} {nm : List (Str × NameKind)} {ig ic : Bool} {mo : List (Str × Const)} {a : Addr} {ccd : Value} {cl : List (Str × Addr)} {outer : List Env} {A₀ : Around} {base h₀ : Heap} {L : Addr} {m : Str → Option Value} {news : List (Addr × Obj)} {s : Shared} {Q E : Value → Shared → Prop}
  (B : Below A₀ base outer h₀) (F : Fr h₀ L s.heap m) (X : (Mine.hd.heap_39 w.params).In h₀) (N : News h₀ L s.heap news) (T : Top topProg LOOSE mean mg mb h₀) (hdp : dp + 8 < recursionLimit)
  {y mo' d h mi sec : Int} {t1 t2 t3 t4 t5 t6 : Tok} 
  (ok : okDay y mo' d → okTime h mi sec → ∀ x dx k1 k2 k3 k4 k5 k6 h' tk', Fr h₀ L h' m → News h₀ L h' ((x, instObj 104 dx) :: (dx, dateD w k1 k2 k3 k4 k5 k6 (.int y t1) (.int mo' t2) (.int d t3) (.int h t4) (.int mi t5) (.int sec t6)) :: news) → (∀ p ∈ news, p.1 < dx) → dx < x → Q (.ref x) { s with heap := h', toks := tk' })
  (bad : ¬ (okDay y mo' d ∧ okTime h mi sec) → ∀ g e t vs h' tk', Fr h₀ L g m → RaisedS base g (envX cn ⟨.function, nm, ig, ic, mo⟩ L a ccd cl :: outer) e (.type "ValueError") t vs news h' → g.UpToSlots h' → E (.ref e) { s with heap := h', toks := tk' })
  : wpAny (model PySem.Challenge.rw_jr0027_01.row.prog w) (aT none dp un gd cn ⟨.function, nm, ig, ic, mo⟩ L a ccd cl outer) (call (.ref 104) [.int y t1, .int mo' t2, .int d t3, .int h t4, .int mi t5, .int sec t6]) Q E s := by
  refine' cDate B F X N T hdp ?z9f ?z9h ok bad
  (case z9f => k_is)
  (case z9h => exact (fun s9 x9 X9 => binds_K X9 rfl (by k_is) rfl rfl rfl))
set_option maxRecDepth 100000 in
set_option maxHeartbeats 8000000 in
theorem cDeserDate {w : World} {mean : ExcName → Option Value} {mg mb : Str → Option Value} {dp un : Nat} {gd : Option (List Code)} {cn : Str} {nm : List (Str × NameKind)} {ig ic : Bool} {mo : List (Str × Const)} {a : Addr} {ccd : Value} {cl : List (Str × Addr)} {outer : List Env} {A₀ : Around} {base h₀ : Heap} {L : Addr} {m : Str → Option Value} {news : List (Addr × Obj)} {s : Shared} {Q E : Value → Shared → Prop}
  (B : Below A₀ base outer h₀) (F : Fr h₀ L s.heap m) (X : (Mine.hd.heap_39 w.params).In h₀) (N : News h₀ L s.heap news) (T : Top topProg LOOSE mean mg mb h₀) (hdp : dp + 12 < recursionLimit) (XB : (Mine.hd.heap_39 w.params).In base) (TB : Top topProg LOOSE mean mg mb base) (D : KtsDicts (outer.filterMap (·.frame)) h₀)
  {v : Int} {t0 : Tok} (hv0 : 0 ≤ v) (hv1 : v < 65536)
  (ok : ∀ Y M D x dx k1 k2 k3 k4 k5 k6 t1 t2 t3 t4 t5 t6, Y = dY v → M = dM v → D = dD v → ∀ h₁ h' tk', KtsTurn (outer.filterMap (·.frame)) h₀ h₁ → Fr h₁ L h' m → Below A₀ base outer h₁ → (Mine.hd.heap_39 w.params).In h₁ → Top topProg LOOSE mean mg mb h₁ → KtsDicts (outer.filterMap (·.frame)) h₁ → News h₁ L h' ((x, instObj 104 dx) :: (dx, dateD w k1 k2 k3 k4 k5 k6 (.int Y t1) (.int M t2) (.int D t3) (.int 0 t4) (.int 0 t5) (.int 0 t6)) :: news) → (∀ p ∈ news, p.1 < dx) → dx < x → Q (.ref x) { s with heap := h', toks := tk' })
  : wpAny (model PySem.Challenge.rw_jr0027_01.row.prog w) (aT none dp un gd cn ⟨.function, nm, ig, ic, mo⟩ L a ccd cl outer) (call (.ref 88) [.int v t0]) Q E s := by
  have mkS : StopAt [38, 104] := ⟨⟩
  refine wpAny_call ?_
  (refine' code_defSE (binds := [((Str.ofString "dt"), .int v t0)]) ?k1 ?k2 ?k3 ?k4 News.nil9 offNilL ?k5 ?XB ?TB ?D ?T0 ?kA ?k6 ?k7 ?k8 ?k9 ?kB ?_ ?cK ?c2 ?c3 ?c4 ?c5; (case kA => exact rfl); (case k2 => k_asm); (case k1 => k_asm); (case XB => assumption); (case TB => assumption); (case D => assumption); (case T0 => exact KtsTurn.refl); (case k3 => k_asm); (case k4 => k_asm); (case k5 => k_asm); (case k6 => k_is); (case k7 => k_is); (case k8 => k_room); (case k9 => first | exact BindsTo.of_eq rfl | exact binds_K (by k_in) rfl (by k_is) rfl rfl rfl | fail "enterS: no rule for these arguments"); (case kB => exact locs rfl); (case cK => exact rfl); (case c2 => exact rfl); (case c3 => exact rfl); (case c4 => exact rfl); (case c5 => decide); k_whole; intro g' L' h' FG' F' N' B' X' T' D'; (try dsimp only); (try k_lift B'); (try k_fold))
  k_steps
  repeat' (refine Later.mk ?_; (first | (k_here; (with_reducible show wpAny _ _ (call (Value.ref 104) [Value.int 1980 _, Value.int 1 _, Value.int 1 _]) _ _ _); k_dflt (refine' cDate0 ?z9B ?z9F ?z9X ?z9N ?z9T ?z9d ?_; (case z9B => k_asm); (case z9F => k_asm); (case z9X => k_asm); (case z9N => k_asm); (case z9T => k_asm); (case z9d => k_room); k_whole); intro x' d' k1' k2' k3' k4' k5' k6' t4' t5' t6' h' tk' F' N' l1 l2; (try k_lt l1); (try k_lt2 l2); (try k_sweep); (try dsimp only)) | (k_here; (with_reducible show wpAny _ _ (call (Value.ref 104) [Value.int _ _, Value.int _ _, Value.int _ _, Value.int _ _, Value.int _ _, Value.int _ _]) _ _ _); k_dflt (refine' cDate6 ?z9B ?z9F ?z9X ?z9N ?z9T ?z9d (fun hda' hok' x' d' k1' k2' k3' k4' k5' k6' h' tk' F' N' l1 l2 => ?_) (fun hnt' g' e' t' vs' h' tk' F' R' U' => ?_); (case z9B => k_asm); (case z9F => k_asm); (case z9X => k_asm); (case z9N => k_asm); (case z9T => k_asm); (case z9d => k_room); (all_goals k_whole)); (all_goals ((try k_lt l1); (try k_lt2 l2); (try k_sweep); (try (exact absurd ⟨by first | exact okDY _ | assumption, by first | exact okTH _ | exact okT0 | assumption⟩ hnt')); (try dsimp only)))) | (k_here; (with_reducible show wpAny _ _ (call (Value.ref 104) [Value.int _ _, Value.int _ _, Value.int _ _]) _ _ _); k_dflt (refine' cDate3 ?z9B ?z9F ?z9X ?z9N ?z9T ?z9d (fun hda' hok' x' d' k1' k2' k3' k4' k5' k6' h' tk' F' N' l1 l2 => ?_) (fun hnt' g' e' t' vs' h' tk' F' R' U' => ?_); (case z9B => k_asm); (case z9F => k_asm); (case z9X => k_asm); (case z9N => k_asm); (case z9T => k_asm); (case z9d => k_room); (all_goals k_whole)); (all_goals ((try k_lt l1); (try k_lt2 l2); (try k_sweep); (try (exact absurd ⟨by first | exact okDY _ | assumption, by first | exact okTH _ | exact okT0 | assumption⟩ hnt')); (try dsimp only)))) | (k_here; (with_reducible show wpAny _ _ (call (Value.ref 38) [Value.int 0 _, Value.int 0 _, Value.int 0 _]) _ _ _); k_dflt (refine' cDosTime0 ?z9B ?z9F ?z9X ?z9N ?z9T ?z9d ?_; (case z9B => k_asm); (case z9F => k_asm); (case z9X => k_asm); (case z9N => k_asm); (case z9T => k_asm); (case z9d => k_room); k_whole); intro x' d' k1' k2' k3' h' tk' F' N' l1 l2; (try k_lt l1); (try k_lt2 l2); (try k_sweep); (try dsimp only)) | (k_here; (with_reducible show wpAny _ _ (call (Value.ref 38) _) _ _ _); k_dflt (refine' cDosTime ?z9B ?z9F ?z9X ?z9N ?z9T ?z9d (fun hok' x' d' k1' k2' k3' h' tk' F' N' l1 l2 => ?_) (fun hnt' g' e' t' vs' h' tk' F' R' U' => ?_); (case z9B => k_asm); (case z9F => k_asm); (case z9X => k_asm); (case z9N => k_asm); (case z9T => k_asm); (case z9d => k_room); (all_goals k_whole)); (all_goals ((try k_lt l1); (try k_lt2 l2); (try k_sweep); (try dsimp only))))); k_steps)
  all_goals first
    | ((with_reducible rename News _ _ _ (_ :: _) => kN9); have hz := dGood hv0 hv1 (by assumption); refine' ok _ _ _ _ _ _ _ _ _ _ _ _ _ _ _ _ _ hz.1 hz.2.1 hz.2.2 _ _ _ ?z9t ?z9f ?z9b ?z9i ?z9o ?z9k (News.drop9 ?z9n ?z9d) ?z9l ?z9x; (case z9n => exact kN9); (case z9d => exact (subC (by k_mem) (subC (by k_mem) (by repeat (first | exact sub0 | refine sub1 ?_))))); (case z9f => assumption); (case z9b => assumption); (case z9i => assumption); (case z9o => assumption); (case z9k => assumption); (case z9t => first | assumption | exact KtsTurn.refl); (case z9l => exact ltOf (by assumption)); (case z9x => assumption))
    | ((with_reducible rename News _ _ _ (_ :: _) => kN9); have hz := dBad hv0 hv1 (by assumption); refine' ok _ _ _ _ _ _ _ _ _ _ _ _ _ _ _ _ _ hz.1 hz.2.1 hz.2.2 _ _ _ ?z9t ?z9f ?z9b ?z9i ?z9o ?z9k (News.drop9 ?z9n ?z9d) ?z9l ?z9x; (case z9n => exact kN9); (case z9d => exact (subC (by k_mem) (subC (by k_mem) (by repeat (first | exact sub0 | refine sub1 ?_))))); (case z9f => assumption); (case z9b => assumption); (case z9i => assumption); (case z9o => assumption); (case z9k => assumption); (case z9t => first | assumption | exact KtsTurn.refl); (case z9l => exact ltOf (by assumption)); (case z9x => assumption))
set_option maxRecDepth 100000 in
set_option maxHeartbeats 8000000 in
theorem cDeserTime {w : World} {mean : ExcName → Option Value} {mg mb : Str → Option Value} {dp un : Nat} {gd : Option (List Code)} {cn : Str} {nm : List (Str × NameKind)} {ig ic : Bool} {mo : List (Str × Const)} {a : Addr} {ccd : Value} {cl : List (Str × Addr)} {outer : List Env} {A₀ : Around} {base h₀ : Heap} {L : Addr} {m : Str → Option Value} {news : List (Addr × Obj)} {s : Shared} {Q E : Value → Shared → Prop}
  (B : Below A₀ base outer h₀) (F : Fr h₀ L s.heap m) (X : (Mine.hd.heap_39 w.params).In h₀) (N : News h₀ L s.heap news) (T : Top topProg LOOSE mean mg mb h₀) (hdp : dp + 12 < recursionLimit) (XB : (Mine.hd.heap_39 w.params).In base) (TB : Top topProg LOOSE mean mg mb base) (D : KtsDicts (outer.filterMap (·.frame)) h₀)
  {v : Int} {t0 : Tok} (hv0 : 0 ≤ v) (hv1 : v < 65536)
  (ok : ∀ H M S x dx k1 k2 k3 t1 t2 t3, H = tH v → M = tM v → S = tS v → ∀ h₁ h' tk', KtsTurn (outer.filterMap (·.frame)) h₀ h₁ → Fr h₁ L h' m → Below A₀ base outer h₁ → (Mine.hd.heap_39 w.params).In h₁ → Top topProg LOOSE mean mg mb h₁ → KtsDicts (outer.filterMap (·.frame)) h₁ → News h₁ L h' ((x, instObj 38 dx) :: (dx, timeD w k1 k2 k3 (.int H t1) (.int M t2) (.int S t3)) :: news) → (∀ p ∈ news, p.1 < dx) → dx < x → Q (.ref x) { s with heap := h', toks := tk' })
  : wpAny (model PySem.Challenge.rw_jr0027_01.row.prog w) (aT none dp un gd cn ⟨.function, nm, ig, ic, mo⟩ L a ccd cl outer) (call (.ref 98) [.int v t0]) Q E s := by
  have mkS : StopAt [38, 104] := ⟨⟩
  refine wpAny_call ?_
  (refine' code_defSE (binds := [((Str.ofString "tm"), .int v t0)]) ?k1 ?k2 ?k3 ?k4 News.nil9 offNilL ?k5 ?XB ?TB ?D ?T0 ?kA ?k6 ?k7 ?k8 ?k9 ?kB ?_ ?cK ?c2 ?c3 ?c4 ?c5; (case kA => exact rfl); (case k2 => k_asm); (case k1 => k_asm); (case XB => assumption); (case TB => assumption); (case D => assumption); (case T0 => exact KtsTurn.refl); (case k3 => k_asm); (case k4 => k_asm); (case k5 => k_asm); (case k6 => k_is); (case k7 => k_is); (case k8 => k_room); (case k9 => first | exact BindsTo.of_eq rfl | exact binds_K (by k_in) rfl (by k_is) rfl rfl rfl | fail "enterS: no rule for these arguments"); (case kB => exact locs rfl); (case cK => exact rfl); (case c2 => exact rfl); (case c3 => exact rfl); (case c4 => exact rfl); (case c5 => decide); k_whole; intro g' L' h' FG' F' N' B' X' T' D'; (try dsimp only); (try k_lift B'); (try k_fold))
  k_steps
  repeat' (refine Later.mk ?_; (first | (k_here; (with_reducible show wpAny _ _ (call (Value.ref 104) [Value.int 1980 _, Value.int 1 _, Value.int 1 _]) _ _ _); k_dflt (refine' cDate0 ?z9B ?z9F ?z9X ?z9N ?z9T ?z9d ?_; (case z9B => k_asm); (case z9F => k_asm); (case z9X => k_asm); (case z9N => k_asm); (case z9T => k_asm); (case z9d => k_room); k_whole); intro x' d' k1' k2' k3' k4' k5' k6' t4' t5' t6' h' tk' F' N' l1 l2; (try k_lt l1); (try k_lt2 l2); (try k_sweep); (try dsimp only)) | (k_here; (with_reducible show wpAny _ _ (call (Value.ref 104) [Value.int _ _, Value.int _ _, Value.int _ _, Value.int _ _, Value.int _ _, Value.int _ _]) _ _ _); k_dflt (refine' cDate6 ?z9B ?z9F ?z9X ?z9N ?z9T ?z9d (fun hda' hok' x' d' k1' k2' k3' k4' k5' k6' h' tk' F' N' l1 l2 => ?_) (fun hnt' g' e' t' vs' h' tk' F' R' U' => ?_); (case z9B => k_asm); (case z9F => k_asm); (case z9X => k_asm); (case z9N => k_asm); (case z9T => k_asm); (case z9d => k_room); (all_goals k_whole)); (all_goals ((try k_lt l1); (try k_lt2 l2); (try k_sweep); (try (exact absurd ⟨by first | exact okDY _ | assumption, by first | exact okTH _ | exact okT0 | assumption⟩ hnt')); (try dsimp only)))) | (k_here; (with_reducible show wpAny _ _ (call (Value.ref 104) [Value.int _ _, Value.int _ _, Value.int _ _]) _ _ _); k_dflt (refine' cDate3 ?z9B ?z9F ?z9X ?z9N ?z9T ?z9d (fun hda' hok' x' d' k1' k2' k3' k4' k5' k6' h' tk' F' N' l1 l2 => ?_) (fun hnt' g' e' t' vs' h' tk' F' R' U' => ?_); (case z9B => k_asm); (case z9F => k_asm); (case z9X => k_asm); (case z9N => k_asm); (case z9T => k_asm); (case z9d => k_room); (all_goals k_whole)); (all_goals ((try k_lt l1); (try k_lt2 l2); (try k_sweep); (try (exact absurd ⟨by first | exact okDY _ | assumption, by first | exact okTH _ | exact okT0 | assumption⟩ hnt')); (try dsimp only)))) | (k_here; (with_reducible show wpAny _ _ (call (Value.ref 38) [Value.int 0 _, Value.int 0 _, Value.int 0 _]) _ _ _); k_dflt (refine' cDosTime0 ?z9B ?z9F ?z9X ?z9N ?z9T ?z9d ?_; (case z9B => k_asm); (case z9F => k_asm); (case z9X => k_asm); (case z9N => k_asm); (case z9T => k_asm); (case z9d => k_room); k_whole); intro x' d' k1' k2' k3' h' tk' F' N' l1 l2; (try k_lt l1); (try k_lt2 l2); (try k_sweep); (try dsimp only)) | (k_here; (with_reducible show wpAny _ _ (call (Value.ref 38) _) _ _ _); k_dflt (refine' cDosTime ?z9B ?z9F ?z9X ?z9N ?z9T ?z9d (fun hok' x' d' k1' k2' k3' h' tk' F' N' l1 l2 => ?_) (fun hnt' g' e' t' vs' h' tk' F' R' U' => ?_); (case z9B => k_asm); (case z9F => k_asm); (case z9X => k_asm); (case z9N => k_asm); (case z9T => k_asm); (case z9d => k_room); (all_goals k_whole)); (all_goals ((try k_lt l1); (try k_lt2 l2); (try k_sweep); (try dsimp only))))); k_steps)
  all_goals first
    | ((with_reducible rename News _ _ _ (_ :: _) => kN9); have hz := tGood hv0 hv1 (by assumption); refine' ok _ _ _ _ _ _ _ _ _ _ _ hz.1 hz.2.1 hz.2.2 _ _ _ ?z9t ?z9f ?z9b ?z9i ?z9o ?z9k (News.drop9 ?z9n ?z9d) ?z9l ?z9x; (case z9n => exact kN9); (case z9d => exact (subC (by k_mem) (subC (by k_mem) (by repeat (first | exact sub0 | refine sub1 ?_))))); (case z9f => assumption); (case z9b => assumption); (case z9i => assumption); (case z9o => assumption); (case z9k => assumption); (case z9t => first | assumption | exact KtsTurn.refl); (case z9l => exact ltOf (by assumption)); (case z9x => assumption))
    | ((with_reducible rename News _ _ _ (_ :: _) => kN9); have hz := tBad hv0 hv1 (by assumption); refine' ok _ _ _ _ _ _ _ _ _ _ _ hz.1 hz.2.1 hz.2.2 _ _ _ ?z9t ?z9f ?z9b ?z9i ?z9o ?z9k (News.drop9 ?z9n ?z9d) ?z9l ?z9x; (case z9n => exact kN9); (case z9d => exact (subC (by k_mem) (subC (by k_mem) (by repeat (first | exact sub0 | refine sub1 ?_))))); (case z9f => assumption); (case z9b => assumption); (case z9i => assumption); (case z9o => assumption); (case z9k => assumption); (case z9t => first | assumption | exact KtsTurn.refl); (case z9l => exact ltOf (by assumption)); (case z9x => assumption))
abbrev lawDays (y m : Int) : Int := 365 * (y + (m - 1).fdiv 12 - (((m - 1).fmod 12 + 10).fmod 12).fdiv 10) + (y + (m - 1).fdiv 12 - (((m - 1).fmod 12 + 10).fmod 12).fdiv 10).fdiv 4 - (y + (m - 1).fdiv 12 - (((m - 1).fmod 12 + 10).fmod 12).fdiv 10).fdiv 100 + (y + (m - 1).fdiv 12 - (((m - 1).fmod 12 + 10).fmod 12).fdiv 10).fdiv 400 + (((m - 1).fmod 12 + 10).fmod 12 * 306 + 5).fdiv 10
def lawTo (y : Int) : Int := 365 * y + y.fdiv 4 - y.fdiv 100 + y.fdiv 400
theorem lawAt {y m a c k : Int} (h1 : (m - 1).fdiv 12 - (((m - 1).fmod 12 + 10).fmod 12).fdiv 10 = a) (h2 : (((m - 1).fmod 12 + 10).fmod 12 * 306 + 5).fdiv 10 = c) (hk : y + a = k) : lawDays y m = lawTo k + c := by
  subst h1 h2 hk
  simp only [lawDays, lawTo, Int.add_sub_assoc]
theorem divU {a b q r : Int} (hb : 0 < b) (h : r + b * q = a) (h0 : 0 ≤ r) (h1 : r < b) : a / b = q ∧ a % b = r := (Int.ediv_emod_unique hb).2 ⟨h, h0, h1⟩
theorem predDiv {y n : Int} (hn : 0 < n) : (y % n = 0 → (y - 1) / n = y / n - 1) ∧ (y % n ≠ 0 → (y - 1) / n = y / n - 0) := by
  have e := Int.emod_add_mul_ediv y n
  refine ⟨fun h => (divU (r := n - 1) hn ?_ (Int.sub_nonneg_of_le hn) (Int.sub_lt_self _ (by decide))).1, fun h => (divU (r := y % n - 1) hn ?_ (Int.sub_nonneg_of_le ((Int.lt_iff_le_and_ne).2 ⟨Int.emod_nonneg y (Int.ne_of_gt hn), Ne.symm h⟩)) (Int.lt_of_le_of_lt (Int.sub_le_self _ (by decide)) (Int.emod_lt_of_pos y hn))).1⟩
  · rw [h, Int.zero_add] at e
    rw [Int.mul_sub, e, Int.mul_one]; omega
  · rw [Int.sub_zero]; omega
theorem fa {X Y d i : Int} : (Y + d) + (X + i) = (Y + X) + (d + i) := by rw [Int.add_assoc, Int.add_assoc, Int.add_left_comm d]
theorem fs {X Y d i : Int} : (Y + d) - (X + i) = (Y - X) + (d - i) := by rw [Int.sub_eq_add_neg, Int.neg_add, fa, ← Int.sub_eq_add_neg, ← Int.sub_eq_add_neg]
theorem febLin {y a b c i j k : Int} : 365 * y + a - b + c - (365 * (y - 1) + (a - i) - (b - j) + (c - k)) = 365 + i - j + k := by
  have h0 : 365 * y = 365 * (y - 1) + 365 := by rw [Int.mul_sub, Int.mul_one, Int.sub_add_cancel]
  have ha : ∀ a i : Int, a = (a - i) + i := fun a i => (Int.sub_add_cancel a i).symm
  rw [h0]
  conv => lhs; lhs; rw [ha a i, ha b j, ha c k, fa, fs, fa]
  rw [Int.add_comm, Int.add_sub_cancel]
theorem febStep {y i j k : Int} (h4 : (y - 1) / 4 = y / 4 - i) (h100 : (y - 1) / 100 = y / 100 - j) (h400 : (y - 1) / 400 = y / 400 - k) : lawTo y - lawTo (y - 1) = 365 + i - j + k := by
  simp only [lawTo, Int.fdiv_eq_ediv_of_nonneg _ (show (0 : Int) ≤ 4 by decide), Int.fdiv_eq_ediv_of_nonneg _ (show (0 : Int) ≤ 100 by decide), Int.fdiv_eq_ediv_of_nonneg _ (show (0 : Int) ≤ 400 by decide), h4, h100, h400]
  exact febLin
theorem lawFeb (y : Int) : (leap y → lawTo y - lawTo (y - 1) = 366) ∧ (¬ leap y → lawTo y - lawTo (y - 1) = 365) := by
  have p4 := predDiv (y := y) (n := 4) (by decide)
  have p100 := predDiv (y := y) (n := 100) (by decide)
  have p400 := predDiv (y := y) (n := 400) (by decide)
  have d1 : y % 400 = 0 → y % 100 = 0 := fun h => by rw [← Int.emod_emod_of_dvd y (show (100 : Int) ∣ 400 by decide), h]; rfl
  have d2 : y % 100 = 0 → y % 4 = 0 := fun h => by rw [← Int.emod_emod_of_dvd y (show (4 : Int) ∣ 100 by decide), h]; rfl
  by_cases h4 : y % 4 = 0
  · by_cases h100 : y % 100 = 0
    · by_cases h400 : y % 400 = 0
      · exact ⟨fun _ => febStep (p4.1 h4) (p100.1 h100) (p400.1 h400), fun n => absurd ⟨h4, .inr h400⟩ n⟩
      · exact ⟨fun l => l.2.elim (fun q => absurd h100 q) (fun q => absurd q h400), fun _ => febStep (p4.1 h4) (p100.1 h100) (p400.2 h400)⟩
    · exact ⟨fun _ => febStep (p4.1 h4) (p100.2 h100) (p400.2 fun q => h100 (d1 q)), fun n => absurd ⟨h4, .inl h100⟩ n⟩
  · exact ⟨fun l => absurd l.1 h4, fun _ => febStep (p4.2 h4) (p100.2 fun q => h4 (d2 q)) (p400.2 fun q => h4 (d2 (d1 q)))⟩
theorem lawSame {A b c d : Int} (h : c - b = d) : (A + c) - (A + b) = d := by rw [fs, Int.sub_self, Int.zero_add, h]
theorem lawLen {y m : Int} (h : 1 ≤ m ∧ m ≤ 12) : ((m = 2 ∧ leap y) → lawDays y (m + 1) - lawDays y m = 29) ∧ (¬ (m = 2 ∧ leap y) → lawDays y (m + 1) - lawDays y m = menu12 m) := by
  rcases cases12 h.1 h.2 with rfl | rfl | rfl | rfl | rfl | rfl | rfl | rfl | rfl | rfl | rfl | rfl
  case inr.inl =>
    obtain ⟨f1, f2⟩ := lawFeb y
    rw [lawAt (m := 2 + 1) (a := 0) (c := 0) (by decide) (by decide) (Int.add_zero y), lawAt (m := 2) (a := -1) (c := 337) (by decide) (by decide) rfl]
    rw [show y + -1 = y - 1 from rfl, show menu12 2 = 28 from by decide]
    exact ⟨fun q => by have := f1 q.2; omega, fun q => by have := f2 (fun l => q ⟨rfl, l⟩); omega⟩
  case inl =>
    refine ⟨fun q => absurd q.1 (by decide), fun _ => ?_⟩
    rw [lawAt (m := 1 + 1) (a := -1) (c := 337) (by decide) (by decide) rfl, lawAt (m := 1) (a := -1) (c := 306) (by decide) (by decide) rfl]
    exact lawSame (by decide)
  all_goals
    refine ⟨fun q => absurd q.1 (by decide), fun _ => ?_⟩
    rw [lawAt (a := 0) (by decide) rfl (Int.add_zero y), lawAt (a := 0) (by decide) rfl (Int.add_zero y)]
    exact lawSame (by decide)
theorem lawDay {y m d : Int} (h : 1 ≤ y ∧ y ≤ 9999 ∧ 1 ≤ m ∧ m ≤ 12 ∧ 1 ≤ d) : (d ≤ lawDays y (m + 1) - lawDays y m) ↔ okDay y m d := by
  obtain ⟨a, b⟩ := lawLen (y := y) (m := m) ⟨h.2.2.1, h.2.2.2.1⟩
  by_cases q : m = 2 ∧ leap y
  · rw [a q]
    exact ⟨goodDay1 h q, fun k => Decidable.byContradiction fun n => badDay1 q n k⟩
  · rw [b q]
    exact ⟨goodDay2 h q, fun k => Decidable.byContradiction fun n => badDay2 q h n k⟩
theorem lawLast {y m : Int} (h : 1 ≤ y ∧ y ≤ 9999 ∧ 1 ≤ m ∧ m ≤ 12) : okDay y m (lawDays y (m + 1) - lawDays y m) := by
  obtain ⟨a, b⟩ := lawLen (y := y) (m := m) ⟨h.2.2.1, h.2.2.2⟩
  obtain ⟨c, d, e⟩ := menuVal h.2.2.1 h.2.2.2
  by_cases q : m = 2 ∧ leap y
  · rw [a q]; exact goodDay1 ⟨h.1, h.2.1, h.2.2.1, h.2.2.2, by decide⟩ q (by decide)
  · rw [b q]
    refine goodDay2 ⟨h.1, h.2.1, h.2.2.1, h.2.2.2, ?_⟩ q (Int.le_refl _)
    by_cases m2 : m = 2
    · rw [c m2]; decide
    · by_cases m4 : m = 4 ∨ m = 6 ∨ m = 9 ∨ m = 11
      · rw [d m4]; decide
      · rw [e (fun q => q.elim m2 m4)]; decide
theorem orNat (x y : Nat) : Builtin.bitOr (x : Int) (y : Int) = ((x ||| y : Nat) : Int) := by
  have h1 : ∀ n : Nat, decide (0 ≤ Builtin.bitNot (n : Int)) = false := fun n => decide_eq_false (by show ¬ (0 ≤ -(n : Int) - 1); omega)
  have h2 : ∀ n : Nat, Builtin.bitNot (Builtin.bitNot (n : Int)) = n := fun n => by show -(-(n : Int) - 1) - 1 = n; omega
  unfold Builtin.bitOr Builtin.bitAnd
  simp only [h1]
  rw [h2, h2, h2]
  simp
theorem orAdd {a b : Int} (k : Nat) (ha : 0 ≤ a) (hb : 0 ≤ b) (hk : b < 2 ^ k) : Builtin.bitOr (a * 2 ^ k) b = a * 2 ^ k + b := by
  obtain ⟨A, rfl⟩ := Int.eq_ofNat_of_zero_le ha
  obtain ⟨C, rfl⟩ := Int.eq_ofNat_of_zero_le hb
  have hk' : C < 2 ^ k := by exact_mod_cast hk
  have := Nat.two_pow_add_eq_or_of_lt hk' A
  rw [show (A : Int) * 2 ^ k = ((2 ^ k * A : Nat) : Int) from by push_cast; exact Int.mul_comm _ _, orNat, ← this]
  push_cast
  rfl
theorem ser3 {a b c : Int} (j k : Nat) (ha : 0 ≤ a) (hb : 0 ≤ b) (hb' : b < 2 ^ j) (hc : 0 ≤ c) (hc' : c < 2 ^ k) : Builtin.bitOr (Builtin.bitOr (a * 2 ^ (j + k)) (b * 2 ^ k)) c = (a * 2 ^ j + b) * 2 ^ k + c := by
  have p : ∀ n : Nat, (0 : Int) < 2 ^ n := fun n => Int.pow_pos (by decide)
  have e : (a * 2 ^ (j + k) + b * 2 ^ k : Int) = (a * 2 ^ j + b) * 2 ^ k := by rw [Int.add_mul, Int.mul_assoc, Int.pow_add]
  rw [orAdd (j + k) ha (Int.mul_nonneg hb (Int.le_of_lt (p k))) (by rw [Int.pow_add]; exact Int.mul_lt_mul_of_pos_right hb' (p k)), e, orAdd k (Int.add_nonneg (Int.mul_nonneg ha (Int.le_of_lt (p j))) hb) hc hc']
theorem serLin {a b c : Int} {j k M : Int} (e : j * k = M) : (a * j + b) * k + c = a * M + b * k + c := by rw [Int.add_mul, Int.mul_assoc, e]
theorem serD {y m d : Int} (hy : 1980 ≤ y) (hm : 0 ≤ m ∧ m ≤ 15) (hd : 0 ≤ d ∧ d ≤ 31) :
    Builtin.bitOr (Builtin.bitOr ((y - 1980) * 2 ^ Int.toNat 9) (m * 2 ^ Int.toNat 5)) d = (y - 1980) * 512 + m * 32 + d :=
  (ser3 4 5 (Int.sub_nonneg_of_le hy) hm.1 (Int.lt_of_le_of_lt hm.2 (by decide)) hd.1 (Int.lt_of_le_of_lt hd.2 (by decide))).trans (serLin rfl)
theorem serT {h mi x : Int} (hh : 0 ≤ h) (hm : 0 ≤ mi ∧ mi ≤ 63) (hx : 0 ≤ x ∧ x ≤ 31) :
    Builtin.bitOr (Builtin.bitOr (h * 2 ^ Int.toNat 11) (mi * 2 ^ Int.toNat 5)) x = h * 2048 + mi * 32 + x :=
  (ser3 6 5 hh hm.1 (Int.lt_of_le_of_lt hm.2 (by decide)) hx.1 (Int.lt_of_le_of_lt hx.2 (by decide))).trans (serLin rfl)
theorem halfE (s : Int) : (s - s.fmod 2).fdiv 2 = s.fdiv 2 := by
  rw [Int.fmod_eq_emod_of_nonneg _ (by decide), Int.fdiv_eq_ediv_of_nonneg _ (by decide), Int.fdiv_eq_ediv_of_nonneg _ (by decide), Int.emod_def, Int.sub_sub_self, Int.mul_ediv_cancel_left _ (by decide)]
theorem serT' {h mi s : Int} (hh : 0 ≤ h) (hm : 0 ≤ mi ∧ mi ≤ 63) (hs : 0 ≤ s ∧ s ≤ 59) :
    Builtin.bitOr (Builtin.bitOr (h * 2 ^ Int.toNat 11) (mi * 2 ^ Int.toNat 5)) ((s - s.fmod 2).fdiv 2) = h * 2048 + mi * 32 + s.fdiv 2 := by
  rw [halfE, Int.fdiv_eq_ediv_of_nonneg _ (by decide)]
  exact serT hh hm ⟨Int.ediv_nonneg hs.1 (by decide), Int.le_of_lt_add_one (Int.ediv_lt_of_lt_mul (by decide) (Int.lt_of_le_of_lt hs.2 (by decide)))⟩
set_option maxRecDepth 100000 in
set_option maxHeartbeats 8000000 in
theorem cDays {w : World} {mean : ExcName → Option Value} {mg mb : Str → Option Value} {dp un : Nat} {gd : Option (List Code)} {cn : Str} {nm : List (Str × NameKind)} {ig ic : Bool} {mo : List (Str × Const)} {a : Addr} {ccd : Value} {cl : List (Str × Addr)} {outer : List Env} {A₀ : Around} {base h₀ : Heap} {L : Addr} {m : Str → Option Value} {news : List (Addr × Obj)} {s : Shared} {Q E : Value → Shared → Prop} {hd : Option Value}
  (B : Below A₀ base outer h₀) (F : Fr h₀ L s.heap m) (X : (Mine.hd.heap_39 w.params).In h₀) (N : News h₀ L s.heap news) (T : Top topProg LOOSE mean mg mb h₀) (hdp : dp + 6 < recursionLimit)
  {y mo' : Int} {t1 t2 : Tok} 
  (ok : ∀ t, ∀ h' tk', Fr h₀ L h' m → News h₀ L h' news → Q (.int (lawDays y mo') t) { s with heap := h', toks := tk' })
  : wpAny (model PySem.Challenge.rw_jr0027_01.row.prog w) (aT hd dp un gd cn ⟨.function, nm, ig, ic, mo⟩ L a ccd cl outer) (call (.ref 681) [.int y t1, .int mo' t2]) Q E s := by
  refine wpAny_call ?_
  (refine' code_def (binds := [((Str.ofString "year"), .int y t1), ((Str.ofString "month"), .int mo' t2)]) ?k1 ?k2 ?k3 ?k4 ?k5 ?kA ?kF ?kK ?k6 ?k7 ?k8 ?k9 ?kB ?_ ?c2 ?c3 ?c4 ?c5; (case kA => exact rfl); (case kF => exact rfl); (case kK => exact rfl); (case k1 => k_asm); (case k2 => k_asm); (case k3 => k_asm); (case k4 => k_asm); (case k5 => k_asm); (case k6 => k_is); (case k7 => k_is); (case k8 => k_room); (case k9 => first | exact BindsTo.of_eq rfl | exact binds_K (by k_in) rfl (by k_is) rfl rfl rfl | fail "k_enter: no rule for these arguments"); (case c5 => decide); (case kB => exact locs rfl); (case c2 => exact rfl); (case c3 => exact rfl); (case c4 => exact rfl); k_whole; intro g' L' h' FG' F' N' B' X' T'; (try dsimp only); (try k_lift B'); (try k_fold))
  k_steps
  exact ok _ _ _ (by assumption) (by assumption)
set_option maxRecDepth 100000 in
set_option maxHeartbeats 8000000 in
theorem cIsDay {w : World} {mean : ExcName → Option Value} {mg mb : Str → Option Value} {dp un : Nat} {gd : Option (List Code)} {cn : Str} {nm : List (Str × NameKind)} {ig ic : Bool} {mo : List (Str × Const)} {a : Addr} {ccd : Value} {cl : List (Str × Addr)} {outer : List Env} {A₀ : Around} {base h₀ : Heap} {L : Addr} {m : Str → Option Value} {news : List (Addr × Obj)} {s : Shared} {Q E : Value → Shared → Prop} {hd : Option Value}
  (B : Below A₀ base outer h₀) (F : Fr h₀ L s.heap m) (X : (Mine.hd.heap_39 w.params).In h₀) (N : News h₀ L s.heap news) (T : Top topProg LOOSE mean mg mb h₀) (hdp : dp + 8 < recursionLimit)
  {y mo' d : Int} {t1 t2 t3 : Tok} 
  (ok : okDay y mo' d → ∀ h' tk', Fr h₀ L h' m → News h₀ L h' news → Q (.bool true) { s with heap := h', toks := tk' })
  (bad : ¬ okDay y mo' d → ∀ h' tk', Fr h₀ L h' m → News h₀ L h' news → Q (.bool false) { s with heap := h', toks := tk' })
  : wpAny (model PySem.Challenge.rw_jr0027_01.row.prog w) (aT hd dp un gd cn ⟨.function, nm, ig, ic, mo⟩ L a ccd cl outer) (call (.ref 688) [.int y t1, .int mo' t2, .int d t3]) Q E s := by
  have mkS : StopAt [681] := ⟨⟩
  refine wpAny_call ?_
  (refine' code_def (binds := [((Str.ofString "year"), .int y t1), ((Str.ofString "month"), .int mo' t2), ((Str.ofString "day"), .int d t3)]) ?k1 ?k2 ?k3 ?k4 ?k5 ?kA ?kF ?kK ?k6 ?k7 ?k8 ?k9 ?kB ?_ ?c2 ?c3 ?c4 ?c5; (case kA => exact rfl); (case kF => exact rfl); (case kK => exact rfl); (case k1 => k_asm); (case k2 => k_asm); (case k3 => k_asm); (case k4 => k_asm); (case k5 => k_asm); (case k6 => k_is); (case k7 => k_is); (case k8 => k_room); (case k9 => first | exact BindsTo.of_eq rfl | exact binds_K (by k_in) rfl (by k_is) rfl rfl rfl | fail "k_enter: no rule for these arguments"); (case c5 => decide); (case kB => exact locs rfl); (case c2 => exact rfl); (case c3 => exact rfl); (case c4 => exact rfl); k_whole; intro g' L' h' FG' F' N' B' X' T'; (try dsimp only); (try k_lift B'); (try k_fold))
  k_steps
  repeat' (refine Later.mk ?_; (first
    | ((with_reducible refine ifCutN (1 ≤ y ∧ y ≤ 9999 ∧ 1 ≤ mo' ∧ mo' ≤ 12 ∧ 1 ≤ d) (fun Qb hcT hcF => ?_) (fun hcut tk' => ?_) (fun hcut tk' => ?_)); all_goals (try dsimp only))
    | (k_dflt (refine cDays (by k_asm) (by k_asm) (by k_asm) (by k_asm) (by k_asm) (by k_room) (fun t' h' tk' F' N' => ?_)); (try k_sweep); (try dsimp only))); k_steps)
  all_goals first
    | ((try dsimp only); first
      | exact hcF ⟨Int.not_lt.mp (by assumption), Int.not_lt.mp (by assumption), Int.not_lt.mp (by assumption), Int.not_lt.mp (by assumption), Int.not_lt.mp (by assumption)⟩ _
      | exact hcT (by first | exact fun hc => absurd hc.1 (Int.not_le.mpr (by assumption)) | exact fun hc => absurd hc.2.1 (Int.not_le.mpr (by assumption)) | exact fun hc => absurd hc.2.2.1 (Int.not_le.mpr (by assumption)) | exact fun hc => absurd hc.2.2.2.1 (Int.not_le.mpr (by assumption)) | exact fun hc => absurd hc.2.2.2.2 (Int.not_le.mpr (by assumption))) _)
    | (exact bad (badDay0 (by assumption)) _ _ (by assumption) (by assumption))
    | ((have hz := lawDay hcut); by_cases hq : okDay y mo' d
       · rw [decide_eq_true (hz.mpr hq)]; exact ok hq _ _ (by assumption) (by assumption)
       · rw [decide_eq_false (fun k => hq (hz.mp k))]; exact bad hq _ _ (by assumption) (by assumption))
set_option maxRecDepth 100000 in
set_option maxHeartbeats 8000000 in
theorem cIsTime {w : World} {mean : ExcName → Option Value} {mg mb : Str → Option Value} {dp un : Nat} {gd : Option (List Code)} {cn : Str} {nm : List (Str × NameKind)} {ig ic : Bool} {mo : List (Str × Const)} {a : Addr} {ccd : Value} {cl : List (Str × Addr)} {outer : List Env} {A₀ : Around} {base h₀ : Heap} {L : Addr} {m : Str → Option Value} {news : List (Addr × Obj)} {s : Shared} {Q E : Value → Shared → Prop} {hd : Option Value}
  (B : Below A₀ base outer h₀) (F : Fr h₀ L s.heap m) (X : (Mine.hd.heap_39 w.params).In h₀) (N : News h₀ L s.heap news) (T : Top topProg LOOSE mean mg mb h₀) (hdp : dp + 8 < recursionLimit)
  {h mi sec : Int} {t1 t2 t3 : Tok} 
  (ok : okTime h mi sec → ∀ h' tk', Fr h₀ L h' m → News h₀ L h' news → Q (.bool true) { s with heap := h', toks := tk' })
  (bad : ¬ okTime h mi sec → ∀ h' tk', Fr h₀ L h' m → News h₀ L h' news → Q (.bool false) { s with heap := h', toks := tk' })
  : wpAny (model PySem.Challenge.rw_jr0027_01.row.prog w) (aT hd dp un gd cn ⟨.function, nm, ig, ic, mo⟩ L a ccd cl outer) (call (.ref 695) [.int h t1, .int mi t2, .int sec t3]) Q E s := by
  have mkS : StopAt [681] := ⟨⟩
  refine wpAny_call ?_
  (refine' code_def (binds := [((Str.ofString "hour"), .int h t1), ((Str.ofString "minute"), .int mi t2), ((Str.ofString "second"), .int sec t3)]) ?k1 ?k2 ?k3 ?k4 ?k5 ?kA ?kF ?kK ?k6 ?k7 ?k8 ?k9 ?kB ?_ ?c2 ?c3 ?c4 ?c5; (case kA => exact rfl); (case kF => exact rfl); (case kK => exact rfl); (case k1 => k_asm); (case k2 => k_asm); (case k3 => k_asm); (case k4 => k_asm); (case k5 => k_asm); (case k6 => k_is); (case k7 => k_is); (case k8 => k_room); (case k9 => first | exact BindsTo.of_eq rfl | exact binds_K (by k_in) rfl (by k_is) rfl rfl rfl | fail "k_enter: no rule for these arguments"); (case c5 => decide); (case kB => exact locs rfl); (case c2 => exact rfl); (case c3 => exact rfl); (case c4 => exact rfl); k_whole; intro g' L' h' FG' F' N' B' X' T'; (try dsimp only); (try k_lift B'); (try k_fold))
  k_steps
  all_goals first
    | ((have hq : okTime h mi sec ↔ sec < 60 := ⟨fun k => Int.lt_of_le_of_lt k.2.2.2.2.2 (by decide), fun k => ⟨by assumption, Int.le_of_lt_add_one (by assumption), by assumption, Int.le_of_lt_add_one (by assumption), by assumption, Int.le_of_lt_add_one k⟩⟩); by_cases hz : sec < 60
       · rw [decide_eq_true hz]; exact ok (hq.mpr hz) _ _ (by assumption) (by assumption)
       · rw [decide_eq_false hz]; exact bad (fun k => hz (hq.mp k)) _ _ (by assumption) (by assumption))
    | ((have hq : ¬ okTime h mi sec := by first | exact fun k => absurd k.1 (by assumption) | exact fun k => absurd (Int.lt_of_le_of_lt k.2.1 (by decide) : h < 24) (by assumption) | exact fun k => absurd k.2.2.1 (by assumption) | exact fun k => absurd (Int.lt_of_le_of_lt k.2.2.2.1 (by decide) : mi < 60) (by assumption) | exact fun k => absurd k.2.2.2.2.1 (by assumption)); rw [decide_eq_false (by assumption)]; exact bad hq _ _ (by assumption) (by assumption))
set_option maxRecDepth 100000 in
set_option maxHeartbeats 8000000 in
theorem cLawDate {w : World} {mean : ExcName → Option Value} {mg mb : Str → Option Value} {dp un : Nat} {gd : Option (List Code)} {cn : Str} {nm : List (Str × NameKind)} {ig ic : Bool} {mo : List (Str × Const)} {a : Addr} {ccd : Value} {cl : List (Str × Addr)} {outer : List Env} {A₀ : Around} {base h₀ : Heap} {L : Addr} {m : Str → Option Value} {news : List (Addr × Obj)} {s : Shared} {Q E : Value → Shared → Prop} {hd : Option Value}
  (B : Below A₀ base outer h₀) (F : Fr h₀ L s.heap m) (X : (Mine.hd.heap_39 w.params).In h₀) (N : News h₀ L s.heap news) (T : Top topProg LOOSE mean mg mb h₀) (hdp : dp + 10 < recursionLimit)
  {v : Int} {t0 : Tok} (hv0 : 0 ≤ v) (hv1 : v < 65536)
  (ok : ∀ Y M D l t1 t2 t3, Y = dY v → M = dM v → D = dD v → ∀ h' tk', Fr h₀ L h' m → News h₀ L h' ((l, tupO [.int Y t1, .int M t2, .int D t3]) :: news) → (∀ p ∈ news, p.1 < l) → Q (.ref l) { s with heap := h', toks := tk' })
  : wpAny (model PySem.Challenge.rw_jr0027_01.row.prog w) (aT hd dp un gd cn ⟨.function, nm, ig, ic, mo⟩ L a ccd cl outer) (call (.ref 702) [.int v t0]) Q E s := by
  have mkS : StopAt [688, 695] := ⟨⟩
  refine wpAny_call ?_
  (refine' code_def (binds := [((Str.ofString "word"), .int v t0)]) ?k1 ?k2 ?k3 ?k4 ?k5 ?kA ?kF ?kK ?k6 ?k7 ?k8 ?k9 ?kB ?_ ?c2 ?c3 ?c4 ?c5; (case kA => exact rfl); (case kF => exact rfl); (case kK => exact rfl); (case k1 => k_asm); (case k2 => k_asm); (case k3 => k_asm); (case k4 => k_asm); (case k5 => k_asm); (case k6 => k_is); (case k7 => k_is); (case k8 => k_room); (case k9 => first | exact BindsTo.of_eq rfl | exact binds_K (by k_in) rfl (by k_is) rfl rfl rfl | fail "k_enter: no rule for these arguments"); (case c5 => decide); (case kB => exact locs rfl); (case c2 => exact rfl); (case c3 => exact rfl); (case c4 => exact rfl); k_whole; intro g' L' h' FG' F' N' B' X' T'; (try dsimp only); (try k_lift B'); (try k_fold))
  k_steps
  repeat' (refine Later.mk ?_; (first | (k_here; (with_reducible show wpAny _ _ (call (Value.ref 695) _) _ _ _); k_dflt (refine' cIsTime ?z9B ?z9F ?z9X ?z9N ?z9T ?z9d (fun hok' h' tk' F' N' => ?_) (fun hnt' h' tk' F' N' => ?_); (case z9B => k_asm); (case z9F => k_asm); (case z9X => k_asm); (case z9N => k_asm); (case z9T => k_asm); (case z9d => k_room); (all_goals k_whole)); (all_goals ((try k_sweep); (try dsimp only)))) | (k_here; (with_reducible show wpAny _ _ (call (Value.ref 688) _) _ _ _); k_dflt (refine' cIsDay ?z9B ?z9F ?z9X ?z9N ?z9T ?z9d (fun hok' h' tk' F' N' => ?_) (fun hnt' h' tk' F' N' => ?_); (case z9B => k_asm); (case z9F => k_asm); (case z9X => k_asm); (case z9N => k_asm); (case z9T => k_asm); (case z9d => k_room); (all_goals k_whole)); (all_goals ((try k_sweep); (try dsimp only))))); k_steps)
  all_goals first
    | (have hz := dGoodL (by assumption); refine' ok _ _ _ _ _ _ _ hz.1 hz.2.1 hz.2.2 _ _ ?z9f (News.drop9 ?z9n ?z9d) ?z9l; (case z9n => assumption); (case z9f => assumption); (case z9d => exact (subC (by k_mem) (by repeat (first | exact sub0 | refine sub1 ?_)))); (case z9l => exact ltOf (by assumption)))
    | (have hz := dBadL (by assumption); refine' ok _ _ _ _ _ _ _ hz.1 hz.2.1 hz.2.2 _ _ ?z9f (News.drop9 ?z9n ?z9d) ?z9l; (case z9n => assumption); (case z9f => assumption); (case z9d => exact (subC (by k_mem) (by repeat (first | exact sub0 | refine sub1 ?_)))); (case z9l => exact ltOf (by assumption)))
set_option maxRecDepth 100000 in
set_option maxHeartbeats 8000000 in
theorem cLawTime {w : World} {mean : ExcName → Option Value} {mg mb : Str → Option Value} {dp un : Nat} {gd : Option (List Code)} {cn : Str} {nm : List (Str × NameKind)} {ig ic : Bool} {mo : List (Str × Const)} {a : Addr} {ccd : Value} {cl : List (Str × Addr)} {outer : List Env} {A₀ : Around} {base h₀ : Heap} {L : Addr} {m : Str → Option Value} {news : List (Addr × Obj)} {s : Shared} {Q E : Value → Shared → Prop} {hd : Option Value}
  (B : Below A₀ base outer h₀) (F : Fr h₀ L s.heap m) (X : (Mine.hd.heap_39 w.params).In h₀) (N : News h₀ L s.heap news) (T : Top topProg LOOSE mean mg mb h₀) (hdp : dp + 10 < recursionLimit)
  {v : Int} {t0 : Tok} (hv0 : 0 ≤ v) (hv1 : v < 65536)
  (ok : ∀ H M S l t1 t2 t3, H = tH v → M = tM v → S = tS v → ∀ h' tk', Fr h₀ L h' m → News h₀ L h' ((l, tupO [.int H t1, .int M t2, .int S t3]) :: news) → (∀ p ∈ news, p.1 < l) → Q (.ref l) { s with heap := h', toks := tk' })
  : wpAny (model PySem.Challenge.rw_jr0027_01.row.prog w) (aT hd dp un gd cn ⟨.function, nm, ig, ic, mo⟩ L a ccd cl outer) (call (.ref 709) [.int v t0]) Q E s := by
  have mkS : StopAt [688, 695] := ⟨⟩
  refine wpAny_call ?_
  (refine' code_def (binds := [((Str.ofString "word"), .int v t0)]) ?k1 ?k2 ?k3 ?k4 ?k5 ?kA ?kF ?kK ?k6 ?k7 ?k8 ?k9 ?kB ?_ ?c2 ?c3 ?c4 ?c5; (case kA => exact rfl); (case kF => exact rfl); (case kK => exact rfl); (case k1 => k_asm); (case k2 => k_asm); (case k3 => k_asm); (case k4 => k_asm); (case k5 => k_asm); (case k6 => k_is); (case k7 => k_is); (case k8 => k_room); (case k9 => first | exact BindsTo.of_eq rfl | exact binds_K (by k_in) rfl (by k_is) rfl rfl rfl | fail "k_enter: no rule for these arguments"); (case c5 => decide); (case kB => exact locs rfl); (case c2 => exact rfl); (case c3 => exact rfl); (case c4 => exact rfl); k_whole; intro g' L' h' FG' F' N' B' X' T'; (try dsimp only); (try k_lift B'); (try k_fold))
  k_steps
  repeat' (refine Later.mk ?_; (first | (k_here; (with_reducible show wpAny _ _ (call (Value.ref 695) _) _ _ _); k_dflt (refine' cIsTime ?z9B ?z9F ?z9X ?z9N ?z9T ?z9d (fun hok' h' tk' F' N' => ?_) (fun hnt' h' tk' F' N' => ?_); (case z9B => k_asm); (case z9F => k_asm); (case z9X => k_asm); (case z9N => k_asm); (case z9T => k_asm); (case z9d => k_room); (all_goals k_whole)); (all_goals ((try k_sweep); (try dsimp only)))) | (k_here; (with_reducible show wpAny _ _ (call (Value.ref 688) _) _ _ _); k_dflt (refine' cIsDay ?z9B ?z9F ?z9X ?z9N ?z9T ?z9d (fun hok' h' tk' F' N' => ?_) (fun hnt' h' tk' F' N' => ?_); (case z9B => k_asm); (case z9F => k_asm); (case z9X => k_asm); (case z9N => k_asm); (case z9T => k_asm); (case z9d => k_room); (all_goals k_whole)); (all_goals ((try k_sweep); (try dsimp only))))); k_steps)
  all_goals first
    | (have hz := tGoodL (by assumption); refine' ok _ _ _ _ _ _ _ hz.1 hz.2.1 hz.2.2 _ _ ?z9f (News.drop9 ?z9n ?z9d) ?z9l; (case z9n => assumption); (case z9f => assumption); (case z9d => exact (subC (by k_mem) (by repeat (first | exact sub0 | refine sub1 ?_)))); (case z9l => exact ltOf (by assumption)))
    | (have hz := tBadL (by assumption); refine' ok _ _ _ _ _ _ _ hz.1 hz.2.1 hz.2.2 _ _ ?z9f (News.drop9 ?z9n ?z9d) ?z9l; (case z9n => assumption); (case z9f => assumption); (case z9d => exact (subC (by k_mem) (by repeat (first | exact sub0 | refine sub1 ?_)))); (case z9l => exact ltOf (by assumption)))
set_option maxRecDepth 100000 in
set_option maxHeartbeats 8000000 in
theorem cSix {w : World} {mean : ExcName → Option Value} {mg mb : Str → Option Value} {dp un : Nat} {gd : Option (List Code)} {cn : Str} {nm : List (Str × NameKind)} {ig ic : Bool} {mo : List (Str × Const)} {a : Addr} {ccd : Value} {cl : List (Str × Addr)} {outer : List Env} {A₀ : Around} {base h₀ : Heap} {L : Addr} {m : Str → Option Value} {news : List (Addr × Obj)} {s : Shared} {Q E : Value → Shared → Prop}
  (B : Below A₀ base outer h₀) (F : Fr h₀ L s.heap m) (X : (Mine.hd.heap_39 w.params).In h₀) (N : News h₀ L s.heap news) (T : Top topProg LOOSE mean mg mb h₀) (hdp : dp + 12 < recursionLimit)
  {x dx : Addr} {o : Obj} {y mo' d h mi sec : Int} (hx : (x, instObj 104 dx) ∈ news) (hd : (dx, o) ∈ news) (ho : IsDate w o y mo' d h mi sec)
  (ok : ∀ l' t1 t2 t3 t4 t5 t6 h' tk', Fr h₀ L h' m → News h₀ L h' ((l', tupO [.int y t1, .int mo' t2, .int d t3, .int h t4, .int mi t5, .int sec t6]) :: news) → (∀ p ∈ news, p.1 < l') → Q (.ref l') { s with heap := h', toks := tk' })
  : wpAny (model PySem.Challenge.rw_jr0027_01.row.prog w) (aT none dp un gd cn ⟨.function, nm, ig, ic, mo⟩ L a ccd cl outer) (call (.ref 716) [.ref x]) Q E s := by
  obtain ⟨k1, k2, k3, k4, k5, k6, t1, t2, t3, t4, t5, t6, rfl⟩ := ho
  refine wpAny_call ?_
  (refine' code_def (binds := [((Str.ofString "one"), .ref x)]) ?k1 ?k2 ?k3 ?k4 ?k5 ?kA ?kF ?kK ?k6 ?k7 ?k8 ?k9 ?kB ?_ ?c2 ?c3 ?c4 ?c5; (case kA => exact rfl); (case kF => exact rfl); (case kK => exact rfl); (case k1 => k_asm); (case k2 => k_asm); (case k3 => k_asm); (case k4 => k_asm); (case k5 => k_asm); (case k6 => k_is); (case k7 => k_is); (case k8 => k_room); (case k9 => first | exact BindsTo.of_eq rfl | exact binds_K (by k_in) rfl (by k_is) rfl rfl rfl | fail "k_enter: no rule for these arguments"); (case c5 => decide); (case kB => exact locs rfl); (case c2 => exact rfl); (case c3 => exact rfl); (case c4 => exact rfl); k_whole; intro g' L' h' FG' F' N' B' X' T'; (try dsimp only); (try k_lift B'); (try k_fold))
  k_steps
  exact ok _ _ _ _ _ _ _ _ _ (by assumption) (by assumption) (ltOf (by assumption))
section
section
variable {prog : Program} {w : World} {A : Around} {E : Value → Shared → Prop} {s : Shared} {h₀ : Heap} {L : Addr} {m : Str → Option Value} {env : Env}
theorem str_st {x : Str} {t : Tok} {I : Addr} : ∀ i (h h' : Heap) (o : Obj) (nw : List (Addr × Obj)), h.IsStrIter I "str_ascii_iterator" x t i → h.get? I = some o → h'.get? I = some o → (∀ b o, h₀.get? b = some o → h'.get? b = some o) → News h₀ L h' nw → True → h'.IsStrIter I "str_ascii_iterator" x t i :=
  fun i h h' o nw st e e' _ _ _ => by obtain ⟨o', q, r⟩ := st; rw [e] at q; cases q; exact ⟨o, e', r⟩
def StrSrc (prog : Program) (w : World) (A : Around) (h₀ : Heap) (L : Addr) (m : Str → Option Value) (env : Env) (elt : Expr) (x : Str) (scope : Scope) (cl : List (Str × Addr)) (Fin : Shared → List Value → List (Addr × Obj) → Prop) (xv : Value) (s₁ : Shared) : Prop :=
  ∃ y t news, xv = .str y t ∧ Fr h₀ L s₁.heap m ∧ News h₀ L s₁.heap news ∧ y.cps.all (· < 128) = true ∧ y.cps.size ≤ sizeLine ∧
      ∀ s₂ : Shared, (∃ h, s₂ = { s₁ with heap := h }) → LCg.CompRest prog w A h₀ L m env elt x scope cl s₂ (fun _ => True) (SignAt y) (Fin s₂) y.cps.size 0 [] news
theorem compStr {elt iter : Expr} {x : Str} {px : Pos} {scope : Scope} {cl : List (Str × Addr)} {pos : Pos} {Q : Value → Shared → Prop} (F₀ : Fr h₀ L s.heap m)
    (hclos : closureFor scope env = pure cl) (hcell : ∀ y ∈ scope.names, y.2 ≠ .cell) (hkind : scope.kind = .function)
    (hnames : ∀ y ∈ scope.names, y.2 = .local → scope.names.lookup y.1 = some .local) (hx : scope.names.lookup x = some .local) (hh : A.handled = none)
    (h : wpAny (model prog w) A (eval iter env) (StrSrc prog w A h₀ L m env elt x scope cl (fun s₂ => LCg.FinE h₀ L m s₂ Q)) E s)
    (hs : ∀ x, foldedSetIterable iter env x = pure x := by intro _; rfl) :
    wpAny (model prog w) A (eval (.ListComp elt [⟨.Name x px, iter, [], 0⟩] scope pos) env) Q E s := by
  rw [eval_ListComp]
  refine wpAny_comprehension_free (use := none) rfl hs hclos hkind hnames (wpAny_mono h (fun xv s₁ h₁ => ?_) fun _ _ e => e)
  obtain ⟨y, t, news, rfl, F, N, ha, hsz, R⟩ := h₁
  refine wpAny_pyIter_ascii ha ?_
  refine LCg.block_U (Walks.strAscii hh s₁.heap.objs.size y t) hsz (fun i h st => by obtain ⟨o, e, _⟩ := st; exact ⟨o, e⟩) str_st hcell hkind hx ⟨_, Heap.get?_push_size _ rfl, rfl, rfl⟩ (fun b hb => ?_)
    (F.keeps fun _ _ e => Heap.get?_push_of_some _ e) (N.grown fun _ _ e => Heap.get?_push_of_some _ e) (Nat.ne_of_lt F.ns.lt) (next_is_new F) (fun p hp => Nat.ne_of_lt (Heap.lt_size (N p hp).1)) trivial (R _ ⟨_, rfl⟩) ?_
  · rw [List.mem_singleton.mp hb]
    show s₁.heap.objs.size < (s₁.heap.push _).objs.size
    rw [Heap.size_push]; exact Nat.lt_succ_self _
  · intro D C h tk m' ys news' F' N' o1 hn hC₀ hD₀ hCL hDL hCD offC fin
    refine ⟨m', hn, fun h'' hs'' => fin D h'' tk (F'.change hs'' hCL hC₀) (fun p hp => ?_) o1⟩
    refine ⟨hs''.extBut _ _ ?_ (N' p hp).1, (N' p hp).2⟩
    rcases List.mem_cons.mp hp with rfl | hp
    · exact Ne.symm hCD
    · exact offC p hp
def EltEnd (h₀ : Heap) (L : Addr) (m : Str → Option Value) (s : Shared) (news : List (Addr × Obj)) (J : Value → Prop) (y : Value) (s₂ : Shared) : Prop :=
  ∃ h' tk', s₂ = { s with heap := h', toks := tk' } ∧ Fr h₀ L h' m ∧ News h₀ L h' news ∧ J y
theorem compRest_of {elt : Expr} {x : Str} {scope : Scope} {cl : List (Str × Addr)} {P : Nat → Value → Prop} {Fin : List Value → List (Addr × Obj) → Prop} {news : List (Addr × Obj)} (J : Nat → List Value → Prop) (n : Nat)
    (step : ∀ i ys v, i < n → J i ys → P i v → ∀ I oI C oC D m₂ h tk (E' : Value → Shared → Prop), LCg.NsObj oC m₂ → m₂ x = some v → Fr h₀ L h m → News h₀ L h ((I, oI) :: (C, oC) :: (D, LCg.lst ys) :: news) → LCg.Off3 I C D news → 
      wpAny (model prog w) A (eval elt (compEnvC scope cl C env)) (EltEnd h₀ L m s ((I, oI) :: (C, oC) :: (D, LCg.lst ys) :: news) (fun y => J (i + 1) (ys ++ [y]))) E' { s with heap := h, toks := tk })
    (fin : ∀ ys, J n ys → Fin ys news) : ∀ k i ys, i + k = n → J i ys → LCg.CompRest prog w A h₀ L m env elt x scope cl s (fun _ => True) P Fin k i ys news := by
  intro k
  induction k with
  | zero => intro i ys e hJ; exact LCg.CompRest.zero (fin ys (by have : i = n := by omega
                                                                 exact this ▸ hJ))
  | succ k ih =>
    intro i ys e hJ
    refine LCg.CompRest.succ fun v I oI C oC D m₂ h tk E' hP ho hm F N off ne => ?_
    refine wpAny_mono (step i ys v (by omega) hJ hP I oI C oC D m₂ h tk E' ho hm F N off) (fun y s₂ hy => ?_) fun _ _ e => e
    obtain ⟨h', tk', rfl, F', N', J'⟩ := hy
    exact ⟨h', tk', news, rfl, F', N', off, trivial, ih (i + 1) _ (by omega) J'⟩
end
abbrev codesOf (x : Str) : List Int := x.cps.toList.map (fun (n : Nat) => (n : Int))
theorem off1All {D : Addr} : ∀ {l : List (Addr × Obj)}, LCg.Off1 D l → ∀ p ∈ l, p.1 ≠ D
  | [], _ => fun _ h => nomatch h
  | _ :: _, x => fun p hp => (List.mem_cons.mp hp).elim (fun e => e ▸ x.1) (off1All x.2 p)
theorem codesIn {x : Str} (ha : x.cps.all (· < 128) = true) : KBa.In (codesOf x) := by
  intro n hn
  obtain ⟨c, hc, rfl⟩ := List.mem_map.mp hn
  have := Array.all_eq_true_iff_forall_mem.mp ha c (Array.mem_toList_iff.mp hc)
  simp at this
  omega
theorem snocInts {x : Str} {ys : List Value} {i c : Nat} {t : Tok} (hJ : IntsAre ys ((codesOf x).take i)) (hc : x.cps[i]? = some c) : IntsAre (ys ++ [.int c t]) ((codesOf x).take (i + 1)) := by
  have e : (codesOf x)[i]? = some (c : Int) := by simp [codesOf, hc]
  rw [List.take_add_one, e]
  exact IntsAre.append hJ (.cons _ _ .nil)
theorem isListNew {h₀ h : Heap} {L D : Addr} {ys : List Value} {news : List (Addr × Obj)} (N : News h₀ L h ((D, LCg.lst ys) :: news)) : h.IsList D ys.toArray := ⟨_, (N _ List.mem_cons_self).1, rfl, _, rfl⟩
local macro_rules | `(tactic| walk_at "call type:bytes") => `(tactic| (k_here; (with_reducible show wpAny _ _ (call (Value.type "bytes") [Value.ref _]) _ _ _); k_dflt (refine' KBa.make_K ?z9F ?z9N ?z9h (isListNew (by assumption)) (ns := codesOf _) ?z9i (codesIn (by assumption)) ?z9n ?_; (case z9F => k_asm); (case z9N => k_asm); (case z9h => rfl); (case z9i => assumption); (case z9n => simp [codesOf]; omega)); intro _ _ _ F' N' kbaIn))
local macro_rules | `(tactic| walk_at "eval ListComp") => `(tactic| (k_here; k_dflt (refine compStr (F₀ := by k_asm) (by with_unfolding_all rfl) (by decide) (by rfl) (by decide) (by rfl) (by rfl) ?_)))
set_option maxRecDepth 100000 in
set_option maxHeartbeats 8000000 in
theorem cEncoded {w : World} {mean : ExcName → Option Value} {mg mb : Str → Option Value} {dp un : Nat} {gd : Option (List Code)} {cn : Str} {nm : List (Str × NameKind)} {ig ic : Bool} {mo : List (Str × Const)} {a : Addr} {ccd : Value} {cl : List (Str × Addr)} {outer : List Env} {A₀ : Around} {base h₀ : Heap} {L : Addr} {m : Str → Option Value} {news : List (Addr × Obj)} {s : Shared} {Q E : Value → Shared → Prop}
  (B : Below A₀ base outer h₀) (F : Fr h₀ L s.heap m) (X : (Mine.hd.heap_39 w.params).In h₀) (N : News h₀ L s.heap news) (T : Top topProg LOOSE mean mg mb h₀) (hdp : dp + 10 < recursionLimit)
  {x : Str} {t0 : Tok} (ha : x.cps.all (· < 128) = true) (hz : x.cps.size ≤ 1000) 
  (ok : ∀ tb, ∀ h' tk', Fr h₀ L h' m → News h₀ L h' news → Q (.bytes (byteArr (codesOf x)) tb) { s with heap := h', toks := tk' })
  : wpAny (model PySem.Challenge.rw_jr0027_01.row.prog w) (aT none dp un gd cn ⟨.function, nm, ig, ic, mo⟩ L a ccd cl outer) (call (.ref 162) [.str x t0]) Q E s := by
  refine wpAny_call ?_
  (refine' code_def (binds := [((Str.ofString "text"), .str x t0)]) ?k1 ?k2 ?k3 ?k4 ?k5 ?kA ?kF ?kK ?k6 ?k7 ?k8 ?k9 ?kB ?_ ?c2 ?c3 ?c4 ?c5; (case kA => exact rfl); (case kF => exact rfl); (case kK => exact rfl); (case k1 => k_asm); (case k2 => k_asm); (case k3 => k_asm); (case k4 => k_asm); (case k5 => k_asm); (case k6 => k_is); (case k7 => k_is); (case k8 => k_room); (case k9 => first | exact BindsTo.of_eq rfl | exact binds_K (by k_in) rfl (by k_is) rfl rfl rfl | fail "k_enter: no rule for these arguments"); (case c5 => decide); (case kB => exact locs rfl); (case c2 => exact rfl); (case c3 => exact rfl); (case c4 => exact rfl); k_whole; intro g' L' h' FG' F' N' B' X' T'; (try dsimp only); (try k_lift B'); (try k_fold))
  k_steps
  refine ⟨_, _, _, rfl, by assumption, by assumption, ha, by rw [sizeLine_eq]; omega, ?_⟩
  rintro s₂ ⟨h9, rfl⟩
  refine compRest_of (fun i ys => IntsAre ys ((codesOf x).take i)) x.cps.size ?_ ?_ _ 0 [] (by omega) ?_
  · intro i ys v hi hJ hP I oI C oC D m₂ h tk E' hoC hm F' N' off
    obtain ⟨c, u, hc, rfl⟩ := hP
    try dsimp only
    k_steps
    exact ⟨_, _, rfl, F', N', snocInts hJ hc⟩
  · intro ys hJ D h tk F' N' off
    replace hJ : IntsAre ys (codesOf x) := by have q := hJ; rwa [List.take_of_length_le (by simp [codesOf])] at q
    (try dsimp only)
    k_steps
    exact ok _ _ _ (by assumption) (News.drop9 (by assumption) (by repeat (first | exact sub0 | refine sub1 ?_)))
  · exact IntsAre.nil
end
section
local macro_rules | `(tactic| walk_at "call builtin:str.rfind") => `(tactic| (refine stopL ?_))
local macro_rules | `(tactic| walk_at "call type:range") => `(tactic| (refine stopL ?_))
set_option maxRecDepth 100000 in
set_option maxHeartbeats 8000000 in
theorem cSplit {w : World} {mean : ExcName → Option Value} {mg mb : Str → Option Value} {dp un : Nat} {gd : Option (List Code)} {cn : Str} {nm : List (Str × NameKind)} {ig ic : Bool} {mo : List (Str × Const)} {a : Addr} {ccd : Value} {cl : List (Str × Addr)} {outer : List Env} {A₀ : Around} {base h₀ : Heap} {L : Addr} {m : Str → Option Value} {news : List (Addr × Obj)} {s : Shared} {Q E : Value → Shared → Prop}
  (B : Below A₀ base outer h₀) (F : Fr h₀ L s.heap m) (X : (Mine.hd.heap_39 w.params).In h₀) (N : News h₀ L s.heap news) (T : Top topProg LOOSE mean mg mb h₀) (hdp : dp + 10 < recursionLimit)
  {S : Str} {t0 : Tok} (h1 : Txt.rfind S (Str.ofString ".") = -1) (h2 : Txt.rfind S (Str.ofString "/") = -1) 
  (ok : ∀ l t, ∀ h' tk', Fr h₀ L h' m → News h₀ L h' ((l, tupO [.str S t0, .str (Str.ofString "") t]) :: news) → (∀ p ∈ news, p.1 < l) → Q (.ref l) { s with heap := h', toks := tk' })
  : wpAny (model PySem.Challenge.rw_jr0027_01.row.prog w) (aT none dp un gd cn ⟨.function, nm, ig, ic, mo⟩ L a ccd cl outer) (call (.ref 179) [.str S t0]) Q E s := by
  refine wpAny_call ?_
  (refine' code_def (binds := [((Str.ofString "path"), .str S t0)]) ?k1 ?k2 ?k3 ?k4 ?k5 ?kA ?kF ?kK ?k6 ?k7 ?k8 ?k9 ?kB ?_ ?c2 ?c3 ?c4 ?c5; (case kA => exact rfl); (case kF => exact rfl); (case kK => exact rfl); (case k1 => k_asm); (case k2 => k_asm); (case k3 => k_asm); (case k4 => k_asm); (case k5 => k_asm); (case k6 => k_is); (case k7 => k_is); (case k8 => k_room); (case k9 => first | exact BindsTo.of_eq rfl | exact binds_K (by k_in) rfl (by k_is) rfl rfl rfl | fail "k_enter: no rule for these arguments"); (case c5 => decide); (case kB => exact locs rfl); (case c2 => exact rfl); (case c3 => exact rfl); (case c4 => exact rfl); k_whole; intro g' L' h' FG' F' N' B' X' T'; (try dsimp only); (try k_lift B'); (try k_fold))
  k_steps
  repeat' (refine Later.mk ?_; (first | (refine KXw.rfind h1 ?_; intro _ _; (try dsimp only)) | (refine KXw.rfind h2 ?_; intro _ _; (try dsimp only)) | ((with_reducible rename Fr _ _ _ _ => F9); (with_reducible rename News _ _ _ _ => N9); k_dflt (refine range2_rows (a := 0) (b := -1) F9 N9 ?_); intro h' tk' t' u' v' hR' F' N' up'; clear F9 N9 up'; (try dsimp only))); k_steps)
  exact ok _ _ _ _ (by assumption) (by assumption) (ltOf (by assumption))
end
end Mine
end
section
namespace Mine
section
theorem bytesAll {prog : Program} {w : World} {A : Around} {E : Value → Shared → Prop} {s : Shared} {env : Env} {h₀ : Heap} {x : Str} {body : List Stmt} {Q : Flow → Shared → Prop} {I : Addr} {m : Str → Option Value} {news : List (Addr × Obj)} {P : Int → Prop}
    (off : ∀ p ∈ news, p.1 ≠ I)
    (step : ∀ c u it h tk, P c → Fr h₀ env.locals h (fun y => if y = x then some (.int c u) else m y) → News h₀ env.locals h ((I, it) :: news) →
      wpAny (model prog w) A (execs body env) (fun f s₂ => f = .next ∧ ∃ h' tk', s₂ = { s with heap := h', toks := tk' } ∧ Fr h₀ env.locals h' (fun y => if y = x then some (.int c u) else m y) ∧ News h₀ env.locals h' ((I, it) :: news)) E { s with heap := h, toks := tk })
    (fin : ∀ mk h tk, Fr h₀ env.locals h (fun y => if y = x then mk else m y) → News h₀ env.locals h news → Q .next { s with heap := h, toks := tk }) :
    ∀ (l : List Int) (mk : Option Value), (∀ c ∈ l, P c) → BytesRest prog w A E h₀ env x body Q s I l (fun y => if y = x then mk else m y) news
  | [], mk, _ => BytesRest.zero fun h tk F N => fin mk h tk F N
  | c :: r, mk, hl => BytesRest.succ fun _ _ u it h tk F N => wpAny_mono (step c u it h tk (hl c List.mem_cons_self) (Fr.over F) N) (fun f s₂ hf => by
      obtain ⟨rfl, h', tk', rfl, F', N'⟩ := hf
      exact UnrEnd.intro F' N' news sub0 off (bytesAll off step fin r _ fun d hd => hl d (List.mem_cons_of_mem _ hd))) fun _ _ e => e
theorem bytesAll0 {prog : Program} {w : World} {A : Around} {E : Value → Shared → Prop} {s : Shared} {env : Env} {h₀ : Heap} {x : Str} {body : List Stmt} {Q : Flow → Shared → Prop} {I : Addr} {m : Str → Option Value} {news : List (Addr × Obj)} {l : List Int} (P : Int → Prop)
    (off : ∀ p ∈ news, p.1 ≠ I)
    (step : ∀ c u it h tk, P c → Fr h₀ env.locals h (fun y => if y = x then some (.int c u) else m y) → News h₀ env.locals h ((I, it) :: news) →
      wpAny (model prog w) A (execs body env) (fun f s₂ => f = .next ∧ ∃ h' tk', s₂ = { s with heap := h', toks := tk' } ∧ Fr h₀ env.locals h' (fun y => if y = x then some (.int c u) else m y) ∧ News h₀ env.locals h' ((I, it) :: news)) E { s with heap := h, toks := tk })
    (fin : ∀ mk h tk, Fr h₀ env.locals h (fun y => if y = x then mk else m y) → News h₀ env.locals h news → Q .next { s with heap := h, toks := tk }) (hl : ∀ c ∈ l, P c) :
    BytesRest prog w A E h₀ env x body Q s I l m news := by
  have e : (fun y => if y = x then m x else m y) = m := funext fun y => by by_cases h : y = x <;> simp [h]
  exact Eq.mp (congrArg (fun m' => BytesRest prog w A E h₀ env x body Q s I l m' news) e) (bytesAll off step fin l (m x) hl)
abbrev signB (c : Int) : Bool := (decide (c = 34) || (decide (c = 42) || (decide (c = 43) || (decide (c = 44) || (decide (c = 46) || (decide (c = 47) || (decide (c = 58) || (decide (c = 59) || (decide (c = 60) || (decide (c = 61) || (decide (c = 62) || (decide (c = 63) || (decide (c = 91) || (decide (c = 92) || (decide (c = 93) || (decide (c = 124) || false))))))))))))))))
local macro_rules | `(tactic| walk_at "call builtin:str.upper") => `(tactic| (refine stopL ?_))
local macro_rules | `(tactic| walk_at "exec If") => `(tactic| (refine stopIf ?_))
local macro_rules | `(tactic| walk_at "pyIter bytes") => `(tactic| (refine stopL ?_))
set_option maxRecDepth 100000 in
set_option maxHeartbeats 8000000 in
theorem cCheck {w : World} {mean : ExcName → Option Value} {mg mb : Str → Option Value} {dp un : Nat} {gd : Option (List Code)} {cn : Str} {nm : List (Str × NameKind)} {ig ic : Bool} {mo : List (Str × Const)} {a : Addr} {ccd : Value} {cl : List (Str × Addr)} {outer : List Env} {A₀ : Around} {base h₀ : Heap} {L : Addr} {m : Str → Option Value} {news : List (Addr × Obj)} {s : Shared} {Q E : Value → Shared → Prop}
  (B : Below A₀ base outer h₀) (F : Fr h₀ L s.heap m) (X : (Mine.hd.heap_39 w.params).In h₀) (N : News h₀ L s.heap news) (T : Top topProg LOOSE mean mg mb h₀) (hdp : dp + 14 < recursionLimit)
  {S e : Str} {t0 t1 : Tok} (ha : S.cps.all (· < 128) = true) (hz : S.cps.size ≤ 1000) (hg : ∀ c ∈ KBw.bInts (byteArr (codesOf S)), signB c = false) 
  (ok : ∀ h' tk', Fr h₀ L h' m → News h₀ L h' news → Q .none { s with heap := h', toks := tk' })
  : wpAny (model PySem.Challenge.rw_jr0027_01.row.prog w) (aT none dp un gd cn ⟨.function, nm, ig, ic, mo⟩ L a ccd cl outer) (call (.ref 268) [.str S t0] [(Str.ofString "encoding", .str e t1)]) Q E s := by
  have mkS : StopAt [162, 179, 268] := ⟨⟩
  refine wpAny_call ?_
  (refine' code_defE (binds := [((Str.ofString "name"), .str S t0), ((Str.ofString "encoding"), .str e t1)]) ?k1 ?k2 ?k3 News.nil9 ?k4 offNil ?k5 ?kA ?k6 ?k7 ?k8 ?k9 ?kB ?_ ?cK ?c2 ?c3 ?c4 ?c5; (case kA => exact rfl); (case k1 => k_asm); (case k2 => k_asm); (case k3 => k_asm); (case k4 => k_asm); (case k5 => k_asm); (case k6 => k_is); (case k7 => k_is); (case k8 => k_room); (case k9 => first | exact BindsTo.of_eq rfl | exact binds_K (by k_in) rfl (by k_is) rfl rfl rfl | fail "enterE: no rule for these arguments"); (case kB => exact locs rfl); (case cK => exact rfl); (case c2 => exact rfl); (case c3 => exact rfl); (case c4 => exact rfl); (case c5 => decide); k_whole; intro g' L' h' FG' F' N' B' X' T'; (try dsimp only); (try k_lift B'); (try k_fold))
  k_steps
  repeat' (refine Later.mk ?_; (first
    | (k_dflt (refine' cEncoded ?z9B ?z9F ?z9X ?z9N ?z9T ?z9d ha hz ?_; (case z9B => k_asm); (case z9F => k_asm); (case z9X => k_asm); (case z9N => k_asm); (case z9T => k_asm); (case z9d => k_room); k_whole); intro tb' h' tk' F' N'; (try dsimp only))
    | ((k_dflt (refine iter_bytesUnr (l := KBw.bInts (byteArr (codesOf S))) (by rfl) F' N' (by rfl) ?_)); intro I9 l9; clear l9; refine bytesAll0 (fun c => signB c = false) (fun _ h => nomatch h) (fun c u it h' tk' hc F' N' => ?_) (fun mk9 h' tk' F' N' => ?_) hg)
    | ((with_reducible refine ifCutP False (fun Qb hcT hcF => ?_) (fun hcut tk' => hcut.elim) (fun hcut tk' => ?_)); all_goals (try dsimp only))); k_steps)
  all_goals first
    | exact Eq.mp (congrArg (fun b => Qb b _) hc.symm) (hcF id _)
    | assumption
    | exact ok _ _ (by assumption) (by assumption)
theorem lenS {prog : Program} {w : World} {A : Around} {E : Value → Shared → Prop} {s : Shared} {x : Str} {t : Tok} {Q : Value → Shared → Prop} (h8 : (x.length : Int) ≤ 8) (h : ∀ t' k, Q (.int x.length t') { s with toks := k }) : wpAny (model prog w) A (call (.builtin "len") [.str x t]) Q E s :=
  PyProof.Rows.len_str (Int.not_le.mpr (Int.lt_of_le_of_lt h8 (by decide))) (h _ _)
theorem notLong {n : Int} (h : n ≤ 8) : ¬ 11 < n + ((0 : Nat) : Int) := by omega
structure Plain (S : Str) : Prop where
  up : Txt.upper S = S
  tl : Builtin.Str.tooLong (Txt.upper S).length = false
  dot : Txt.rfind S (Str.ofString ".") = -1
  sl : Txt.rfind S (Str.ofString "/") = -1
  len : (S.length : Int) ≤ 8
  ha : S.cps.all (· < 128) = true
  hz : S.cps.size ≤ 1000
  hg : ∀ c ∈ KBw.bInts (byteArr (codesOf S)), signB c = false
set_option maxRecDepth 100000 in
set_option maxHeartbeats 8000000 in
theorem cConf {w : World} {mean : ExcName → Option Value} {mg mb : Str → Option Value} {dp un : Nat} {gd : Option (List Code)} {cn : Str} {nm : List (Str × NameKind)} {ig ic : Bool} {mo : List (Str × Const)} {a : Addr} {ccd : Value} {cl : List (Str × Addr)} {outer : List Env} {A₀ : Around} {base h₀ : Heap} {L : Addr} {m : Str → Option Value} {news : List (Addr × Obj)} {s : Shared} {Q E : Value → Shared → Prop}
  (B : Below A₀ base outer h₀) (F : Fr h₀ L s.heap m) (X : (Mine.hd.heap_39 w.params).In h₀) (N : News h₀ L s.heap news) (T : Top topProg LOOSE mean mg mb h₀) (hdp : dp + 20 < recursionLimit)
  {S : Str} {t0 t1 : Tok} (hS : Plain S) 
  (ok : ∀ h' tk', Fr h₀ L h' m → News h₀ L h' news → Q (.bool true) { s with heap := h', toks := tk' })
  : wpAny (model PySem.Challenge.rw_jr0027_01.row.prog w) (aT none dp un gd cn ⟨.function, nm, ig, ic, mo⟩ L a ccd cl outer) (call (.ref 279) [.str S t0, .str (Str.ofString "latin-1") t1]) Q E s := by
  have mkS : StopAt [162, 179, 268] := ⟨⟩
  refine wpAny_call ?_
  (refine' code_defE (binds := [((Str.ofString "entry_name"), .str S t0), ((Str.ofString "encoding"), .str (Str.ofString "latin-1") t1)]) ?k1 ?k2 ?k3 News.nil9 ?k4 offNil ?k5 ?kA ?k6 ?k7 ?k8 ?k9 ?kB ?_ ?cK ?c2 ?c3 ?c4 ?c5; (case kA => exact rfl); (case k1 => k_asm); (case k2 => k_asm); (case k3 => k_asm); (case k4 => k_asm); (case k5 => k_asm); (case k6 => k_is); (case k7 => k_is); (case k8 => k_room); (case k9 => first | exact BindsTo.of_eq rfl | exact binds_K (by k_in) rfl (by k_is) rfl rfl rfl | fail "enterE: no rule for these arguments"); (case kB => exact locs rfl); (case cK => exact rfl); (case c2 => exact rfl); (case c3 => exact rfl); (case c4 => exact rfl); (case c5 => decide); k_whole; intro g' L' h' FG' F' N' B' X' T'; (try dsimp only); (try k_lift B'); (try k_fold))
  k_steps
  repeat' (first | ((k_dflt (refine lenS hS.len ?_)); intro _ _; (try dsimp only); k_steps) | (refine Later.mk ?_; (first
    | (refine KXw.upper hS.up hS.tl ?_; intro _ _; (try dsimp only))
    | (k_dflt (refine' cSplit ?z9B ?z9F ?z9X ?z9N ?z9T ?z9d hS.dot hS.sl ?_; (case z9B => k_asm); (case z9F => k_asm); (case z9X => k_asm); (case z9N => k_asm); (case z9T => k_asm); (case z9d => k_room); k_whole); intro l' t' h' tk' F' N' l1; (try k_lt l1); (try k_sweep); (try dsimp only))
    | (k_here; (with_reducible show wpAny _ _ (call (Value.ref 268) [Value.str (Str.ofString "") _] _) _ _ _); k_dflt (refine' cCheck ?z9B ?z9F ?z9X ?z9N ?z9T ?z9d (by decide +kernel) (by decide +kernel) (by decide +kernel) ?_; (case z9B => k_asm); (case z9F => k_asm); (case z9X => k_asm); (case z9N => k_asm); (case z9T => k_asm); (case z9d => k_room); k_whole); intro h' tk' F' N'; (try k_sweep); (try dsimp only))
    | (k_dflt (refine' cCheck ?z9B ?z9F ?z9X ?z9N ?z9T ?z9d hS.ha hS.hz hS.hg ?_; (case z9B => k_asm); (case z9F => k_asm); (case z9X => k_asm); (case z9N => k_asm); (case z9T => k_asm); (case z9d => k_room); k_whole); intro h' tk' F' N'; (try k_sweep); (try dsimp only))
    | ((with_reducible refine ifCutP False (fun Qb hcT hcF => ?_) (fun hcut tk' => hcut.elim) (fun hcut tk' => ?_)); all_goals (try dsimp only))); k_steps))
  all_goals first
    | exact Eq.mp (congrArg (fun b => Qb b _) (bne_self_eq_false S).symm) (hcF id _)
    | exact Eq.mp (congrArg (fun b => Qb b _) (decide_eq_false (notLong hS.len)).symm) (hcF id _)
    | exact hcF id _
    | exact absurd hS.len (Int.not_le.mpr (by assumption))
    | exact ok _ _ (by assumption) (by assumption)
structure Padded (S : Str) : Prop extends Plain S where
  st : Txt.strip S = S
  sz : S.length ≤ sizeLine
  as : (Txt.ljust S 8).length + (Str.ofString "   ").length ≤ sizeLine
  pa : (Txt.ljust S 8 ++ Str.ofString "   ").cps.all (· < 128) = true
  pz : (Txt.ljust S 8 ++ Str.ofString "   ").cps.size ≤ 1000
  bz : (byteArr (codesOf (Txt.ljust S 8 ++ Str.ofString "   "))).size ≤ sizeLine
local macro_rules | `(tactic| walk_at "call builtin:str.strip") => `(tactic| (refine stopL ?_))
local macro_rules | `(tactic| walk_at "call builtin:str.ljust") => `(tactic| (refine stopL ?_))
local macro_rules | `(tactic| walk_at "binaryOp Add str str") => `(tactic| (refine stopL ?_))
set_option maxRecDepth 100000 in
set_option maxHeartbeats 8000000 in
theorem cPad {w : World} {mean : ExcName → Option Value} {mg mb : Str → Option Value} {dp un : Nat} {gd : Option (List Code)} {cn : Str} {nm : List (Str × NameKind)} {ig ic : Bool} {mo : List (Str × Const)} {a : Addr} {ccd : Value} {cl : List (Str × Addr)} {outer : List Env} {A₀ : Around} {base h₀ : Heap} {L : Addr} {m : Str → Option Value} {news : List (Addr × Obj)} {s : Shared} {Q E : Value → Shared → Prop}
  (B : Below A₀ base outer h₀) (F : Fr h₀ L s.heap m) (X : (Mine.hd.heap_39 w.params).In h₀) (N : News h₀ L s.heap news) (T : Top topProg LOOSE mean mg mb h₀) (hdp : dp + 14 < recursionLimit)
  {S : Str} {t0 : Tok} (hS : Padded S) 
  (ok : ∀ t h' tk', Fr h₀ L h' m → News h₀ L h' news → Q (.str (Txt.ljust S 8 ++ Str.ofString "   ") t) { s with heap := h', toks := tk' })
  : wpAny (model PySem.Challenge.rw_jr0027_01.row.prog w) (aT none dp un gd cn ⟨.function, nm, ig, ic, mo⟩ L a ccd cl outer) (call (.ref 289) [.str S t0]) Q E s := by
  have mkS : StopAt [162, 179, 268] := ⟨⟩
  refine wpAny_call ?_
  (refine' code_defE (binds := [((Str.ofString "name"), .str S t0)]) ?k1 ?k2 ?k3 News.nil9 ?k4 offNil ?k5 ?kA ?k6 ?k7 ?k8 ?k9 ?kB ?_ ?cK ?c2 ?c3 ?c4 ?c5; (case kA => exact rfl); (case k1 => k_asm); (case k2 => k_asm); (case k3 => k_asm); (case k4 => k_asm); (case k5 => k_asm); (case k6 => k_is); (case k7 => k_is); (case k8 => k_room); (case k9 => first | exact BindsTo.of_eq rfl | exact binds_K (by k_in) rfl (by k_is) rfl rfl rfl | fail "enterE: no rule for these arguments"); (case kB => exact locs rfl); (case cK => exact rfl); (case c2 => exact rfl); (case c3 => exact rfl); (case c4 => exact rfl); (case c5 => decide); k_whole; intro g' L' h' FG' F' N' B' X' T'; (try dsimp only); (try k_lift B'); (try k_fold))
  k_steps
  repeat' (refine Later.mk ?_; (first
    | ((first | refine KXw.strip hS.st hS.sz ?_ | refine KXw.strip (y := Str.ofString "") (by decide +kernel) (by decide +kernel) ?_ | refine KXw.ljust (x := S) rfl (by decide +kernel) ?_ | refine KXw.ljust (y := Str.ofString "   ") (by decide +kernel) (by decide +kernel) ?_ | refine PyProof.Rows.add_str ?_ hS.as); intro _ _; (try dsimp only))
    | (k_dflt (refine' cSplit ?z9B ?z9F ?z9X ?z9N ?z9T ?z9d hS.dot hS.sl ?_; (case z9B => k_asm); (case z9F => k_asm); (case z9X => k_asm); (case z9N => k_asm); (case z9T => k_asm); (case z9d => k_room); k_whole); intro l' t' h' tk' F' N' l1; (try k_lt l1); (try k_sweep); (try dsimp only))); k_steps)
  all_goals first
    | exact ok _ _ _ (by assumption) (by assumption)
theorem padWORDS : Padded (Str.ofString "WORDS") := by refine ⟨?_, ?_, ?_, ?_, ?_, ?_, ?_⟩; constructor; all_goals decide +kernel
theorem padMOMENT : Padded (Str.ofString "MOMENT") := by refine ⟨?_, ?_, ?_, ?_, ?_, ?_, ?_⟩; constructor; all_goals decide +kernel
end
section
variable {α β : Type} {M : Model} {A : Around} {s : Shared}
theorem wpG.holding {vs : List Value} {m : Sem α} {Q : α → Shared → Prop} (h : wpG M A m Q s) : wpG M A (PySem.holding vs m) Q s :=
  fun Γ p hΓ c d => by rw [Sem.wp_holding]; exact h Γ p hΓ c d
theorem wpG.onRaise {m : Sem α} {k : Value → Sem Unit} {Q : α → Shared → Prop} (h : wpG M A m Q s) : wpG M A (m.onRaise k) Q s := fun Γ p hΓ c d => by
  rw [Sem.wp_onRaise]
  exact Sem.wp_mono M Γ m (fun _ _ _ h' => h') (fun e p' s' h' => h'.elim) p s (h Γ p hΓ c d)
theorem wpG.keep {l : List Value} {m : Sem α} {Q : α → Shared → Prop} (h : wpG M A m Q s) : wpG M A (m.keep l) Q s := fun Γ p hΓ c d => by
  rw [Sem.wp_keep]; exact h Γ p hΓ c d
theorem wpG.runValue {c : Code} {Q : Value → Shared → Prop}
    (hc : codeG M A c (fun r s' => match r with | .ok (.ret v) => Q v s' | _ => False) s) : wpG M A (runValue c) Q s := fun Γ p hΓ d f => by
  rw [Sem.wp_runValue]
  refine wpCode_mono (fun r s' h => ?_) (hc _ p rfl (hΓ.enter c none p (by intro x; cases x)) (Fine.cons d f))
  cases r with
  | error e => exact h
  | ok fl => cases fl <;> exact h
theorem wpG.call {f : Value} {pos : List Value} {kw : List (Str × Value)} {Q : Value → Shared → Prop}
    (hc : codeG M A (.call f ⟨pos, kw⟩) (fun r s' => match r with | .ok (.ret v) => Q v s' | _ => False) s) : wpG M A (PySem.call f pos kw) Q s := wpG.runValue hc
theorem codeG.of_tree {c : Code} {R : Result → Shared → Prop} (hf : FineC c)
    (h : wpG M (A.under c) (M.den c) (fun fin s' => match fin with | .done f => R (.ok f) s' | .again c' => c'.quiet = true ∧ codeG M A c' R s') s) : codeG M A c R s := fun Γ p hc hΓ d => by
  rw [wpCode_iff_wp, hc]
  refine Sem.wp_mono M Γ _ (fun fin p' s' h' => ?_) (fun _ _ _ h' => h'.elim) p s (h Γ p (hc ▸ hΓ.in) (hc ▸ hf) d)
  cases fin with
  | done f => exact h'
  | again c' => exact ⟨h'.1, h'.2 (Γ.goto c') p' rfl (hΓ.goto c') d⟩
theorem codeG.mono {c : Code} {R R' : Result → Shared → Prop} (h : codeG M A c R s) (hR : ∀ r s, R r s → R' r s) : codeG M A c R' s :=
  fun Γ p hc hΓ d => wpCode_mono hR (h Γ p hc hΓ d)
end
section
variable {prog : Program} {w : World} {A : Around} {s : Shared} {env : Env}
/-- the post as a letter -/
theorem wpG.named {α : Type} {t : Sem α} {Q : α → Shared → Prop} (k : ∀ Q' : α → Shared → Prop, (∀ a s, Q a s → Q' a s) → wpG (model prog w) A t Q' s) : wpG (model prog w) A t Q s := k Q fun _ _ h => h
theorem wpG.nil {Q : Flow → Shared → Prop} (h : Q .next s) : wpG (model prog w) A (execs [] env) Q s := fun _ _ _ _ _ => h
theorem wpG.cons {st rest} {Q : Flow → Shared → Prop}
    (h : wpG (model prog w) A (exec st env) (fun f s' => match f with | .next => wpG (model prog w) A (execs rest env) Q s' | f => Q f s') s) :
    wpG (model prog w) A (execs (st :: rest) env) Q s := fun Γ p hΓ c d => by
  rw [execs_cons, Sem.wp_bind']
  refine Sem.wp_mono _ Γ _ (fun f p' s' h' => ?_) (fun _ _ _ h' => h') _ _ (h Γ p hΓ c d)
  cases f <;> first | exact h' Γ p' hΓ c d | exact h'
/-- a group of plain statements ahead -/
theorem wpG.group {l₁ l₂ : List Stmt} {Q : Flow → Shared → Prop}
    (h : wpAny (model prog w) A (execs l₁ env) (fun f s' => match f with | .next => wpG (model prog w) A (execs l₂ env) Q s' | f => Q f s') NoE s) :
    wpG (model prog w) A (execs (l₁ ++ l₂) env) Q s := fun Γ p hΓ c d => by
  have key : ∀ (l : List Stmt) (Q' : Flow → Pos → Shared → Prop) p s, Sem.wp (model prog w) Γ (execs l env) (fun f p' s' => match f with | .next => Sem.wp (model prog w) Γ (execs l₂ env) Q' (fun _ _ _ => False) p' s' | f => Q' f p' s') (fun _ _ _ => False) p s →
      Sem.wp (model prog w) Γ (execs (l ++ l₂) env) Q' (fun _ _ _ => False) p s := by
    intro l
    induction l with
    | nil => intro Q' p s h; exact h
    | cons st r ih =>
      intro Q' p s h
      rw [List.cons_append, execs_cons, Sem.wp_bind']
      rw [execs_cons, Sem.wp_bind'] at h
      refine Sem.wp_mono _ Γ _ (fun f p' s' h' => ?_) (fun _ _ _ h' => h') _ _ h
      cases f <;> first | exact ih _ _ _ h' | exact h'
  refine key l₁ _ p s (Sem.wp_mono _ Γ _ (fun f p' s' h' => ?_) (fun _ _ _ h' => h') _ _ (h Γ p hΓ))
  cases f <;> first | exact h' Γ p' hΓ c d | exact h'
theorem codeG.func {body env} {R : Result → Shared → Prop}
    (h : wpG (model prog w) (A.deeper env) (execs body env) (fun f s' => R (.ok (.ret (match f with | .ret v => v | _ => .none))) s') s) :
    codeG (model prog w) A (.func body env) R s := by
  refine codeG.of_tree fineC_func ?_
  show wpG _ (A.deeper env) (do point; match ← (execs body env).onRaise (leaving env) with | .ret v => ret v | _ => ret .none) _ s
  refine wpG.bindA (wpAny_point (wpG.bind (wpG.onRaise (wpG.mono h fun f s' h' => ?_))))
  cases f <;> exact wpG.pure h'
theorem codeG.call_function {R : Result → Shared → Prop} {a : Addr} {args : Args} {o : Obj} {fd : FuncData} {body : List Stmt} (hroom : A.depth < recursionLimit)
    (ho : s.heap.get? a = some o) (hd' : o.data = .func fd) (hco : fd.scope.isCoroutine = false) (hgen : fd.scope.isGenerator = false) (hbody : fd.body = .stmts body) (hcd : s.heap.CodeRec fd.code fd.qualname)
    (h : wpAny (model prog w) A.in1 (bindArgs fd args) (fun binds s₁ =>
      wpAny (model prog w) A.in1 (newFunctionEnv fd.scope fd.globals fd.closure binds (fd.qualname ++ ".<locals>.") (some a) fd.code none fd.builtins)
        (fun env s₂ => s₂.heap.NoLimit ∧ codeG (model prog w) A (.func body env) R s₂) NoE s₁) NoE s) :
    codeG (model prog w) A (.call (.ref a) args) R s := by
  refine codeG.of_tree fineC_call ?_
  refine wpG.any ?_
  show wpAny _ A.in1 (callAny (.ref a) args) _ _ s
  simp only [callAny]
  refine wpAny_bind (wpAny_load ho ?_)
  obtain ⟨c, oc, vs, tq, hc, hoc, hdc, hq⟩ := hcd
  simp only [hd', callFunction, hco, hgen, hbody, hc]
  rw [hc] at h
  refine wpAny_bind (m := field (.ref c) 1) (wpAny_field hoc hdc hq (wpAny_bind (wpAny_pure ?_)))
  exact wpAny_bind (wpAny_mono h (fun binds s₁ h₁ => wpAny_bind (wpAny_mono h₁ (fun env s₂ h₂ => wpAny_bind (wpAny_enterFrame h₂.1 hroom
    (wpAny_pure (And.intro rfl h₂.2)))) fun _ _ h' => h')) fun _ _ h' => h')
end
section
variable {prog : Program} {w : World} {A₀ A : Around} {s : Shared} {base h₀ g₀ : Heap} {outer : List Env} {L a : Addr} {m : Str → Option Value} {cn : Str} {cs : Scope} {ccd : Value} {cl : List (Str × Addr)} {own news : List (Addr × Obj)} {K : Frag} {p : Program} {loose : List Str} {mean : ExcName → Option Value} {mg mb : Str → Option Value}
  {R : Result → Shared → Prop} {name qual : Str} {params : Arguments} {body : List Stmt} {scope : Scope} {dV kV doc pm cdv ct oc : Value} {an od : Option Addr} {osl : Array (Option Value)} {f : Addr} {args : Args} {binds : List (Str × Value)}
theorem codeG.call_def {a : Addr} {o : Obj} {fd : FuncData} (hroom : A.depth < recursionLimit) (ho : s.heap.get? a = some o) (hdata : o.data = .func fd) (hlim : s.heap.NoLimit) (hcd : s.heap.CodeRec fd.code fd.qualname)
    (hbody : fd.body = .stmts body) (hbind : BindsTo s fd args binds)
    (hcell : ∀ x ∈ fd.scope.names, x.2 ≠ .cell) (hloc : ∀ x ∈ binds, fd.scope.names.lookup x.1 = some .local)
    (h : ∀ h₀, h₀.Ns s.heap.objs.size (fun x => binds.reverse.lookup x) → (∀ b o, s.heap.get? b = some o → h₀.get? b = some o) →
      wpG (model prog w) (A.deeper (callEnv fd s.heap.objs.size a)) (execs body (callEnv fd s.heap.objs.size a)) (fun f s' => R (.ok (.ret (match f with | .ret v => v | _ => .none))) s')
        { s with heap := h₀, toks := s.toks + binds.length })
    (hco : fd.scope.isCoroutine = false) (hgen : fd.scope.isGenerator = false) (hk : fd.scope.kind = .function) :
    codeG (model prog w) A (.call (.ref a) args) R s := by
  refine codeG.call_function hroom ho hdata hco hgen hbody hcd (hbind _ _ _ _ ?_)
  refine wpAny_newFunctionEnv hcell hloc (fun h₀ hns₀ hsb₀ => ⟨hlim.fresh _ hsb₀, codeG.func (h h₀ hns₀ fun b o e => ?_)⟩) hk
  exact hsb₀.extBut b o (Nat.ne_of_lt (Heap.lt_size e)) (Heap.get?_push_of_some _ e)
/-- a call whose body knows of 'own' alone; what else the caller's ledger holds comes back untouched -/
theorem code_defGE (B : Below A₀ base outer h₀) (F : Fr h₀ L s.heap m) (X₀ : K.In h₀) (N : News h₀ L s.heap own) (NT : News h₀ L s.heap news) (hoff : ∀ p ∈ news, ∀ q ∈ own, p.1 ≠ q.1) (T : Top p loose mean mg mb h₀)
    (hA : A.frames = some (envX cn cs L a ccd cl :: outer))
    (ho : K.lookup f = some ⟨oc, od, .func (fnOf name qual params body scope dV kV doc pm an cdv ct), osl⟩) (hcd : codeIn K cdv qual = true) (hroom : A.depth < recursionLimit)
    (hbind : BindsTo s (fnOf name qual params body scope dV kV doc pm an cdv ct) args binds) (hloc : ∀ y ∈ binds, scope.names.lookup y.1 = some .local)
    (h : ∀ g L' h₁, Fr h₀ L g m → Fr g L' h₁ (fun y => binds.reverse.lookup y) → News g L' h₁ own → Below A base (envX cn cs L a ccd cl :: outer) g → K.In g → Top p loose mean mg mb g →
      wpG (model prog w) (A.deeper (envOf qual scope L' f cdv)) (execs body (envOf qual scope L' f cdv))
        (fun fl s' => LeaveK h₀ L m g (fun r s'' => News h₀ L s''.heap news → R r s'') (match fl with | .ret v => v | _ => .none) s')
        { s with heap := h₁, toks := s.toks + binds.length })
    (hck : cs.kind = .function) (hco : scope.isCoroutine = false) (hgen : scope.isGenerator = false) (hk : scope.kind = .function)
    (hcell : ∀ x ∈ scope.names, x.2 ≠ .cell) : codeG (model prog w) A (.call (.ref f) args) R s := by
  have X := X₀.keeps F.keep
  refine codeG.call_def (fd := fnOf name qual params body scope dV kV doc pm an cdv ct) (body := body) (binds := binds) hroom (X _ _ ho) rfl (T.nolimit.keeps F.keep) (codeRec_of X hcd) rfl hbind hcell hloc (fun h₁ hns hk₁ => ?_) hco hgen hk
  obtain ⟨oL, es, ep, hLg, hLd, hN, hNs, st, B₂⟩ := kts_enterX B F N hA hck
  have hT : ∀ p ∈ news, (hideAll s.heap (own.map (·.1))).get? p.1 = some p.2 := fun p hp => hideAll_get _ (NT p hp).1 fun q => by
    obtain ⟨z, hz, e⟩ := List.mem_map.mp q
    exact hoff p hp z hz e.symm
  refine wpG.mono (h _ s.heap.objs.size h₁ ⟨hN _ hLg, st, F.above⟩ ⟨hns, fun b o e => hk₁ b o (of_hideAll _ e), Nat.le_of_eq (hideAll_size _ _)⟩
    (fun p hp => ⟨hk₁ _ _ (N p hp).1, Nat.ne_of_lt (Heap.lt_size (N p hp).1), hideAll_none _ (List.mem_map_of_mem hp)⟩) B₂ (X₀.keeps st) (T.keeps st)) (fun fl s' hl => ?_)
  obtain ⟨L', m', news', F', N', k⟩ := hl
  refine k ⟨hN _ (F'.keep _ _ hLg), fun b o e => F'.keep b o (st b o e), F.above⟩ (fun p hp => ⟨(N' p hp).1, fun q => ?_, staysFresh st (N' p hp).2.2⟩) (fun p hp => ⟨F'.keep _ _ (hT p hp), (NT p hp).2⟩)
  have := (N' p hp).2.2
  rw [q, hLg] at this
  cases this
/-- the same where the body holds a try (the frames below may be noted) -/
theorem code_defGSE (B : Below A₀ base outer h₀) (F : Fr h₀ L s.heap m) (X₀ : K.In h₀) (N : News h₀ L s.heap own) (NT : News h₀ L s.heap news) (hoff : ∀ p ∈ news, ∀ q ∈ own, p.1 ≠ q.1) (T : Top p loose mean mg mb h₀) (XB : K.In base) (TB : Top p loose mean mg mb base) (D : KtsDicts (outer.filterMap (·.frame)) h₀)
    (T0 : KtsTurn (outer.filterMap (·.frame)) g₀ h₀) (hA : A.frames = some (envX cn cs L a ccd cl :: outer))
    (ho : K.lookup f = some ⟨oc, od, .func (fnOf name qual params body scope dV kV doc pm an cdv ct), osl⟩) (hcd : codeIn K cdv qual = true) (hroom : A.depth < recursionLimit)
    (hbind : BindsTo s (fnOf name qual params body scope dV kV doc pm an cdv ct) args binds) (hloc : ∀ y ∈ binds, scope.names.lookup y.1 = some .local)
    (h : ∀ g L' h₁, Fr h₀ L g m → Fr g L' h₁ (fun y => binds.reverse.lookup y) → News g L' h₁ own → Below A base (envX cn cs L a ccd cl :: outer) g → K.In g → Top p loose mean mg mb g → KtsDicts ((envX cn cs L a ccd cl :: outer).filterMap (·.frame)) g →
      wpG (model prog w) (A.deeper (envOf qual scope L' f cdv)) (execs body (envOf qual scope L' f cdv))
        (fun fl s' => LeaveS ((envX cn cs L a ccd cl :: outer).filterMap (·.frame)) A₀ base outer K p loose mean mg mb g₀ h₀ L m g (fun r s'' => News h₀ L s''.heap news → R r s'') (match fl with | .ret v => v | _ => .none) s')
        { s with heap := h₁, toks := s.toks + binds.length })
    (hck : cs.kind = .function) (hco : scope.isCoroutine = false) (hgen : scope.isGenerator = false) (hk : scope.kind = .function)
    (hcell : ∀ x ∈ scope.names, x.2 ≠ .cell) : codeG (model prog w) A (.call (.ref f) args) R s := by
  have X := X₀.keeps F.keep
  refine codeG.call_def (fd := fnOf name qual params body scope dV kV doc pm an cdv ct) (body := body) (binds := binds) hroom (X _ _ ho) rfl (T.nolimit.keeps F.keep) (codeRec_of X hcd) rfl hbind hcell hloc (fun h₁ hns hk₁ => ?_) hco hgen hk
  obtain ⟨oL, es, ep, hLg, hLd, hN, hNs, st, B₂⟩ := kts_enterX B F N hA hck
  have hT : ∀ p ∈ news, (hideAll s.heap (own.map (·.1))).get? p.1 = some p.2 := fun p hp => hideAll_get _ (NT p hp).1 fun q => by
    obtain ⟨z, hz, e⟩ := List.mem_map.mp q
    exact hoff p hp z hz e.symm
  refine wpG.mono (h _ s.heap.objs.size h₁ ⟨hN _ hLg, st, F.above⟩ ⟨hns, fun b o e => hk₁ b o (of_hideAll _ e), Nat.le_of_eq (hideAll_size _ _)⟩
    (fun p hp => ⟨hk₁ _ _ (N p hp).1, Nat.ne_of_lt (Heap.lt_size (N p hp).1), hideAll_none _ (List.mem_map_of_mem hp)⟩) B₂ (X₀.keeps st) (T.keeps st) (fun b hb => by
      rcases kts_memX hb with rfl | hb
      · exact ⟨oL, es, ep, hLg, hLd⟩
      · obtain ⟨o, es', n', ho', hd'⟩ := D b hb
        exact ⟨o, es', n', st b o ho', hd'⟩)) (fun fl s' hl => ?_)
  have nL₀ : h₀.get? L = none := kts_self F
  rcases hl with ⟨L', m', news', F', N', k⟩ | ⟨g', L', m', news', T', F', N', k⟩
  · refine k ⟨hN _ (F'.keep _ _ hLg), fun b o e => F'.keep b o (st b o e), F.above⟩ (fun p hp => ⟨(N' p hp).1, fun q => ?_, staysFresh st (N' p hp).2.2⟩) (fun p hp => ⟨F'.keep _ _ (hT p hp), (NT p hp).2⟩)
    have := (N' p hp).2.2
    rw [q, hLg] at this
    cases this
  obtain ⟨sl, hs⟩ := T'.up hLg
  have nfs : ∀ b, b ∈ (envX cn cs L a ccd cl :: outer).filterMap (·.frame) → b = L ∨ b ∈ outer.filterMap (·.frame) := fun b q => kts_memX q
  obtain ⟨T₁, S₁⟩ := kts_turn_at (h := s'.heap) (fs := outer.filterMap (·.frame)) (g := h₀)
    (fun b hb => by
      obtain ⟨_, o, ho', _⟩ := B.frames.mem hb
      exact ⟨o, ho'⟩)
    (fun b o e nmem => F'.keep b o (T'.other b o (st b o e) (fun q => by
      rcases nfs b q with z | z
      · rw [z, nL₀] at e; cases e
      · exact nmem z)))
    (fun b o e hm => by
      obtain ⟨sl', hs'⟩ := T'.up (st b o e)
      exact ⟨sl', F'.keep _ _ hs'⟩)
  have B₃ : Below A₀ base outer (ktsHeap s'.heap (outer.filterMap (·.frame)) h₀) := ⟨B.stack, fun b o e => T₁.other b o (B.stays b o e) (fun hm => by
    rw [(B.frames.mem hm).1] at e
    cases e), B.frames.of_keeps fun b o e _ => by
    obtain ⟨sl', hs'⟩ := T₁.up e
    exact ⟨_, hs', rfl⟩⟩
  refine k _ (T0.trans T₁) ⟨hNs sl _ (F'.keep _ _ hs), S₁, by rw [T₁.size]; exact F.above⟩ (fun p hp => ⟨(N' p hp).1, fun q => ?_, T₁.none_ _ (staysFresh st (turnFresh T' (N' p hp).2.2))⟩) B₃ (XB.keeps B₃.stays) (TB.keeps B₃.stays) (D.turn T₁)
    (fun p hp => ⟨F'.keep _ _ (T'.other _ _ (hT p hp) fun q => ?_), (NT p hp).2⟩)
  · have := (N' p hp).2.2
    rw [q, hs] at this
    cases this
  · rcases nfs _ q with z | z
    · exact (NT p hp).2.1 z
    · obtain ⟨_, o, ho', _⟩ := B.frames.mem z
      rw [(NT p hp).2.2] at ho'
      cases ho'
end
section
open PySem PySem.W PySem.Calls PyProof.Rows PySem.Builtin
set_option maxRecDepth 100000
theorem ba_mro : mroOf (.type "bytearray") = pure [.type "bytearray", .type "object"] := by rw [mroOf_type]; kernel_rfl
theorem ba_lookup_new : typeLookup (.type "bytearray") "__new__" = pure (some (.builtin "bytearray.__new__")) := by rw [typeLookup_type, builtinLookup_eq_fast]; kernel_rfl
theorem ba_slot_init : Slot "bytearray" "__init__" "bytearray.__init__" :=
  .of (owner := "bytearray") (n := "__init__") (by rw [typeLookup_type, builtinLookup_eq_fast]; kernel_rfl) (by decide +kernel) (by decide +kernel) (by decide +kernel)
    (by first | exact .inl (by decide +kernel) | exact .inr (by decide +kernel)) (by rw [isSubtype_type]; kernel_rfl)
theorem ba_sub : isSubtype (.type "bytearray") (.type "bytearray") = pure true := by rw [isSubtype_type]; kernel_rfl
theorem ba_called : TypeCalled "bytearray" "bytearray.__new__" "bytearray.__init__" :=
  ⟨by decide +kernel, by decide +kernel, ⟨_, _, ba_mro⟩, madeBy_type ba_mro ba_lookup_new (by decide +kernel), by decide +kernel, ba_sub, ba_slot_init⟩
theorem ba_typeCall (a : Value) : checkTypeCall "bytearray" ⟨[a], []⟩ = pure () := by kernel_rfl
theorem ba_newCall (a : Value) : checkBuiltinCall "bytearray.__new__" ⟨[.type "bytearray", a], []⟩ = pure () := by kernel_rfl
theorem ba_plain_new : plainId "bytearray.__new__" = true := by decide +kernel
theorem ba_plain_init : plainId "bytearray.__init__" = true := by decide +kernel
theorem ba_entry_new : entryFor table "bytearray.__new__" = some Builtin.«list.__new__» := by
  first | exact entryFor_alias (id' := "list.__new__") (by kernel_rfl) rfl (by decide +kernel) (by kernel_rfl) | exact entryFor_of_tree (by kernel_rfl)
theorem ba_entry_init : entryFor table "bytearray.__init__" = some Builtin.«bytearray.__init__» := by first | exact entryFor_of_fast (by kernel_rfl) | exact entryFor_of_tree (by kernel_rfl)
theorem ba_args_init (a b : Value) : argsOk "bytearray.__init__" ⟨[a, b], []⟩ := by unfold argsOk; kernel_rfl
theorem ba_release : typeLookup (.type "bytearray") "__release_buffer__" = pure (some (.builtin "bytearray.__release_buffer__")) := by rw [typeLookup_type, builtinLookup_eq_fast]; kernel_rfl
theorem ba_bind (v : Value) : Builtin.Bytes.bindOptional "bytearray.__init__" "bytearray" ["source", "encoding", "errors"] [v] [] = pure [some v, none, none] := by kernel_rfl
theorem ba_no_index : typeLookup (.type "bytes") "__index__" = pure none := by rw [typeLookup_type, builtinLookup_eq_fast]; kernel_rfl
set_option maxRecDepth 1000000 in
set_option maxHeartbeats 4000000 in
theorem ba_owner : ("bytearray.__new__".splitOn ".__new__").headD "" = "bytearray" := by simp +decide [String.splitOn, String.splitOnAux]
section
variable {prog : Program} {w : World} {A : Around} {E : Value → Shared → Prop} {s : Shared}
theorem ba_code_new (a : Value) {Q₁ : Value → Shared → Prop}
    (h : Q₁ (.ref s.heap.objs.size) { s with heap := s.heap.push { cls := .type "bytearray", data := .bytearray #[] } }) :
    codeAny (model prog w) A (.call (.builtin "bytearray.__new__") ⟨[.type "bytearray", a], []⟩) (wants Q₁ E) s := by
  refine codeAny_of_tree ?_
  show wpAny _ A.in1 (do checkBuiltinCall "bytearray.__new__" ⟨[.type "bytearray", a], []⟩; again (.builtin "bytearray.__new__" ⟨[.type "bytearray", a], []⟩)) _ _ s
  refine wpAny_bind (wpAny_of_eq (ba_newCall a) (wpAny_pure ⟨plainId_quiet ba_plain_new _, codeAny_builtin_stack ba_entry_new rfl fun p st => ?_⟩))
  rw [Around.under_plainId ba_plain_new _]
  have hsub := ba_sub
  have hown := ba_owner
  obtain ⟨hp, g, d, tk, os⟩ := s
  simp only [hown]
  wp_walk
  exact h
theorem ba_ownRelease {D : Addr} {Q : Bool → Shared → Prop} (hT : s.TypeIs (.ref D) "bytearray") (h : Q false s) : wpAny (model prog w) A (Bytes.ownRelease (.ref D)) Q E s := by
  unfold Bytes.ownRelease Bytes.slotIsOwn
  refine wpAny_bind (wpAny_bind (wpAny_specialOf hT ba_release ?_))
  have key : ∀ x : String, x = "bytearray" → wpAny (model prog w) A (isInstance (.ref D) (.type x)) (fun b s' => wpAny (model prog w) A (pure !b) Q E s') E s := fun x hx => by
    rw [hx]; exact wpAny_isInstance hT ba_sub (wpAny_pure h)
  dsimp only
  split
  · rename_i hx
    exact absurd hx (by decide +kernel)
  · exact key _ (by decide +kernel)
end
end
section
open PySem PySem.W PySem.Calls PyProof.Rows PySem.Builtin
set_option maxRecDepth 100000
section
variable {prog : Program} {w : World} {A : Around} {s : Shared}
theorem guardIds_ba : ∀ id : String, guardIds.contains id = false → id ≠ "bytearray.__contains__" ∧ id ≠ "bytearray.__mod__" ∧ id ≠ "bytearray.__rmod__" ∧ id ≠ "_struct.pack_into.held" ∧ id ≠ "bytearray.find.held" := by
  intro id h
  refine ⟨?_, ?_, ?_, ?_, ?_⟩ <;> (rintro rfl; revert h; decide +kernel)
theorem notHeld (self : Value) (id : String) (args : Args) (q : Pos) (n : id ≠ "bytearray.__contains__" ∧ id ≠ "bytearray.__mod__" ∧ id ≠ "bytearray.__rmod__" ∧ id ≠ "_struct.pack_into.held" ∧ id ≠ "bytearray.find.held") (hd : Bytes.decodersThatHold.contains id = false) :
    Bytes.exported.match_1 (fun _ => Bool) (Code.builtin id args, q) (fun v _ _ _ => Bytes.sameRef v self) (fun v _ _ _ => Bytes.sameRef v self) (fun _ v _ _ _ => Bytes.sameRef v self) (fun v _ _ _ => Bytes.sameRef v self) (fun _ _ held _ _ => held.any (Bytes.sameRef self)) (fun nm v _ _ _ => Bytes.sameRef v self && Bytes.decodersThatHold.contains nm) (fun _ => false) = false := by
  delta Bytes.exported.match_1
  refine (dif_neg n.1).trans ?_
  refine (dif_neg n.2.1).trans ?_
  refine (dif_neg n.2.2.1).trans ?_
  refine (dif_neg n.2.2.2.1).trans ?_
  refine (dif_neg n.2.2.2.2).trans ?_
  cases args with | mk pos kw => cases pos with
    | nil => rfl
    | cons v r => exact (congrArg (Bytes.sameRef v self && ·) hd).trans (Bool.and_false _)
theorem noGuard : ∀ {l : List (Code × Pos)}, guardsOf l = [] → ∀ x ∈ l, x.1.isGuard = false
  | [], _, _, hx => nomatch hx
  | (c, q) :: r, hg, x, hx => by
    rw [guardsOf_cons] at hg
    obtain ⟨hg1, hg2⟩ := List.append_eq_nil_iff.mp hg
    rcases List.mem_cons.mp hx with rfl | hx
    · cases e : c.isGuard with
      | false => rfl
      | true => rw [Code.guards, if_pos e] at hg1; cases hg1
    · exact noGuard hg2 x hx
theorem notExported {self : Value} {A : Around} {Q : Bool → Shared → Prop} (hg : A.guards = some []) (h : Q false s) : wpG (model prog w) A (Bytes.exported self) Q s := fun Γ p hΓ c d => by
  have hgs : guardsOf ((Γ.code, p) :: Γ.below) = [] := by rw [guardsOf_cons]; exact hΓ.2.2.2.1 _ hg
  have hfine : Fine ((Γ.code, p) :: Γ.below) := Fine.cons c d
  have e : ∀ f : Code × Pos → Bool, (∀ x ∈ ((Γ.code, p) :: Γ.below), f x = false) → Q (((Γ.code, p) :: Γ.below).any f) s := fun f hf => by
    rw [List.any_eq_false.mpr (fun x hx => by rw [hf x hx]; exact Bool.false_ne_true)]; exact h
  unfold Bytes.exported
  refine e _ fun x hx => ?_
  obtain ⟨c, q⟩ := x
  cases c with
  | builtin id args => exact notHeld self id args q (guardIds_ba id (noGuard hgs _ hx)) (hfine _ hx id args rfl)
  | _ => rfl
end
end
set_option maxRecDepth 100000
section
variable {prog : Program} {w : World} {A : Around} {s : Shared} {α : Type}
theorem wpG.ff {c : Bool} {a b : Sem α} {Q : α → Shared → Prop} (hc : c = false) (h : wpG (model prog w) A b Q s) : wpG (model prog w) A (if c = true then a else b) Q s := by subst hc; exact h
theorem wpG.tt {c : Bool} {a b : Sem α} {Q : α → Shared → Prop} (hc : c = true) (h : wpG (model prog w) A a Q s) : wpG (model prog w) A (if c = true then a else b) Q s := by subst hc; exact h
abbrev baObj (b : Array UInt8) : Obj := { cls := .type "bytearray", data := .bytearray b }
theorem ba_write {A : Around} {E : Value → Shared → Prop} {D : Addr} {b c : Array UInt8} {Q : Unit → Shared → Prop} (hD : s.heap.get? D = some (baObj b)) (hc : c.size ≤ sizeLine)
    (h : ∀ h', h'.get? D = some (baObj c) → (∀ x o, x ≠ D → s.heap.get? x = some o → h'.get? x = some o) → Q () { s with heap := h' }) : wpAny (model prog w) A (Builtin.Bytes.write (.ref D) fun _ => c) Q E s := by
  show wpAny _ _ (updateBytearray D (fun _ => c)) _ _ _
  unfold updateBytearray
  refine wpAny_bind (wpAny_load hD ?_)
  show wpAny _ _ (update D (Obj.mapBytearray fun _ => c) >>= fun _ => lookBehind D) _ _ _
  refine wpAny_bind (wpAny_update hD ?_)
  have hS := Heap.get?_update_self (Obj.mapBytearray fun _ => c) hD rfl
  refine wpAny_lookBehind hS ?_ (h _ hS fun x o hx e => (Heap.get?_update_other _ _ (Ne.symm hx)).trans e)
  show (if c.size > sizeLine then some "bytearray:memory" else none) = none
  rw [if_neg (Nat.not_lt.mpr hc)]
theorem ba_init {D : Addr} {b : Array UInt8} {t : Tok} {Q : Fin → Shared → Prop} (hg : A.guards = some []) (hb : b.size ≤ sizeLine) (hD : s.heap.get? D = some (baObj #[]))
    (h : ∀ h', h'.get? D = some (baObj b) → (∀ x o, x ≠ D → s.heap.get? x = some o → h'.get? x = some o) → Q (.done (.ret .none)) { s with heap := h' }) :
    wpG (model prog w) A (Builtin.«bytearray.__init__» ⟨[.ref D, .bytes b t], []⟩) Q s := by
  have hT : s.TypeIs (.ref D) "bytearray" := ⟨_, hD, rfl⟩
  unfold Builtin.«bytearray.__init__»
  refine wpG.bindA (ba_ownRelease hT ?_)
  refine wpG.ff rfl ?_
  refine wpG.bindA (wpAny_of_eq (ba_bind _) ?_)
  refine wpG.bindA (wpAny_of_eq (a := ()) rfl ?_)
  refine wpG.bindA (wpAny_of_eq (a := ()) rfl ?_)
  refine wpG.bind ?_
  unfold orM
  refine wpG.bind (notExported hg ?_)
  show wpG _ _ (do let n ← Builtin.Bytes.exportsOf (.ref D); pure (decide (n > 0))) _ _
  refine wpG.any ?_
  unfold Builtin.Bytes.exportsOf
  refine wpAny_bind (wpAny_bind (wpAny_load hD ?_))
  refine wpAny_pure (wpAny_pure ?_)
  refine wpG.ff (by decide) (wpG.any ?_)
  dsimp only
  refine wpAny_bind (ba_write hD (Nat.zero_le _) fun h₁ hD₁ k₁ => ?_)
  refine wpAny_bind (wpAny_of_eq (a := none) rfl ?_)
  refine PySem.bm_if_false rfl ?_
  refine wpAny_bind (wpAny_of_eq (a := ()) rfl ?_)
  refine wpAny_bind (wpAny_of_eq (KBy.special_eq ba_no_index) ?_)
  refine PySem.bm_if_false rfl ?_
  refine wpAny_bind (wpAny_of_eq KBy.buffer_eq ?_)
  dsimp only
  refine wpAny_bind (wpAny_rule ?_)
  refine wpAny_bind (ba_write hD₁ hb fun h₂ hD₂ k₂ => ?_)
  exact wpAny_pure (h _ hD₂ fun x o hx e => k₂ x o hx (k₁ x o hx e))
theorem codeG.builtin {id : String} {args : Args} {b : Builtin} {R : Result → Shared → Prop} (hf : FineC (.builtin id args)) (hb : entryFor table id = some b)
    (h : wpG (model prog w) (A.under (.builtin id args)) (b args) (fun fin s' => match fin with | .done f => R (.ok f) s' | .again c' => c'.quiet = true ∧ codeG (model prog w) A c' R s') s) :
    codeG (model prog w) A (.builtin id args) R s := by
  refine codeG.of_tree hf ?_
  show wpG _ _ (match entryFor table id with | some b => b args | none => unsupported ((withoutEnding? id "#data").getD id)) _ s
  rw [hb]; exact h
theorem codeG.call_builtin {id : String} {args : Args} {b : Builtin} {R : Result → Shared → Prop} (hf : FineC (.builtin id args)) (hq : (Code.builtin id args).quiet = true) (hb : entryFor table id = some b)
    (hc : ∀ Q : Unit → Shared → Prop, Q () s → wpAny (model prog w) A.in1 (checkBuiltinCall id args) Q NoE s)
    (h : wpG (model prog w) (A.under (.builtin id args)) (b args) (fun fin s' => match fin with | .done f => R (.ok f) s' | .again c' => c'.quiet = true ∧ codeG (model prog w) A c' R s') s) :
    codeG (model prog w) A (.call (.builtin id) args) R s := by
  refine codeG.of_tree fineC_call ?_
  show wpG _ A.in1 (do checkBuiltinCall id args; again (.builtin id args)) _ s
  exact wpG.bindA (hc _ (wpG.pure ⟨hq, codeG.builtin hf hb h⟩))
theorem ba_typeCallG {b : Array UInt8} {t : Tok} {Q : Value → Shared → Prop} (hg : A.guards = some []) (hb : b.size ≤ sizeLine)
    (h : ∀ h', h'.get? s.heap.objs.size = some (baObj b) → (∀ x o, s.heap.get? x = some o → h'.get? x = some o) → Q (.ref s.heap.objs.size) { s with heap := h' }) :
    wpG (model prog w) A (call (.type "bytearray") [.bytes b t]) Q s := by
  refine wpG.call (codeG.of_tree fineC_call ?_)
  show wpG _ _ (callAny (.type "bytearray") _) _ _
  refine wpG.pure ⟨Code.quiet_builtin _ (by decide +kernel), codeG.builtin (fineC_builtin (by decide +kernel)) F.entry_type_call ?_⟩
  rw [Around.under_plain (weight_type_call_type "bytearray" [.bytes b t] []) rfl]
  unfold Builtin.«type.__call__»
  refine wpG.ff ba_called.notType ?_
  refine wpG.ff ba_called.canCreate ?_
  refine wpG.bindA (wpAny_of_eq (ba_typeCall _) ?_)
  refine wpG.bindA (wpAny_of_eq ba_mro ?_)
  refine wpG.ff rfl ?_
  refine wpG.bindA (wpAny_of_eq ba_called.made ?_)
  refine wpG.bindA (wpAny_pure ?_)
  refine wpG.bindA (wpAny_holding (wpAny_call (codeAny_mono (ba_code_new (Q₁ := fun obj s₁ => obj = .ref s.heap.objs.size ∧ s₁ = { s with heap := s.heap.push { cls := .type "bytearray", data := .bytearray #[] } }) (E := NoE) (.bytes b t) ⟨rfl, rfl⟩) fun r s₁ hr => ?_)))
  cases r with
  | error e => exact hr
  | ok fl =>
    cases fl with
    | ret obj =>
      obtain ⟨rfl, rfl⟩ := hr
      have hD : (s.heap.push { cls := .type "bytearray", data := .bytearray #[] }).get? s.heap.objs.size = some (baObj #[]) := Heap.get?_push_size _ rfl
      have hT : ({ s with heap := s.heap.push { cls := .type "bytearray", data := .bytearray #[] } } : Shared).TypeIs (.ref s.heap.objs.size) "bytearray" := ⟨_, hD, rfl⟩
      dsimp only
      refine wpG.bindA (wpAny_isInstance hT ba_sub ?_)
      refine wpG.ff rfl ?_
      refine wpG.bind (wpG.holding ?_)
      unfold callSpecial?
      refine wpG.bindA (wpAny_specialOf hT ba_slot_init.lookup ?_)
      dsimp only
      refine wpG.holding ?_
      refine wpG.bindA (wpAny_of_eq (ba_slot_init.bind _) ?_)
      dsimp only
      refine wpG.bind (wpG.call (codeG.call_builtin (fineC_builtin (by decide +kernel)) (plainId_quiet ba_plain_init _) ba_entry_init (fun Q' hQ' => ba_slot_init.check _ _ _ _ _ _ _ _ hT (ba_args_init _ _) hQ') ?_))
      rw [Around.under_plainId ba_plain_init _]
      refine ba_init hg hb hD fun h' hD' k => ?_
      refine wpG.pure ?_
      dsimp only
      refine wpG.ff rfl (wpG.pure ?_)
      exact h _ hD' fun x o e => k x o (Nat.ne_of_lt (Heap.lt_size e)) (Heap.get?_push_of_some _ e)
    | _ => exact hr.elim
end
set_option maxRecDepth 100000
section
variable {prog : Program} {w : World} {A : Around} {s : Shared} {env : Env} {α : Type}
theorem wpG_If {test body orelse pos} {Q : Flow → Shared → Prop}
    (h : wpG (model prog w) A (isTrue test env (eval test env)) (fun b s₂ => if b then wpG (model prog w) A (execs body env) Q s₂ else wpG (model prog w) A (execs orelse env) Q s₂) s) :
    wpG (model prog w) A (exec (.If test body orelse pos) env) Q s := fun Γ p hΓ c d => by
  simp only [exec_If, Sem.wp_bind', Sem.wp_cmd_standAt]
  refine Sem.wp_mono _ Γ _ (fun b p₂ s₂ h₂ => ?_) (fun _ _ _ h' => h') _ _ (h Γ _ hΓ c d)
  cases b <;> exact h₂ Γ p₂ hΓ c d
theorem wpG_isNot {x pos whole} {Q : Bool → Shared → Prop} (h : wpG (model prog w) A (isTrue x env (eval x env)) (fun c s' => Q (!c) s') s) :
    wpG (model prog w) A (isTrue (.UnaryOp .Not x pos) env whole) Q s := by
  show wpG _ A (do return !(← isTrue x env (eval x env))) Q s
  exact wpG.bind (wpG.mono h fun c s' h' => wpG.pure h')
theorem wpG_isOrNil {pos whole} {Q : Bool → Shared → Prop} (h : Q false s) : wpG (model prog w) A (isTrue (.BoolOp .Or [] pos) env whole) Q s := wpG.pure (a := false) h
theorem wpG_isOr {x rest pos whole} {Q : Bool → Shared → Prop}
    (h : wpG (model prog w) A (isTrue x env (eval x env)) (fun c s' => if c then Q true s' else wpG (model prog w) A (isTrue (.BoolOp .Or rest pos) env whole) Q s') s) :
    wpG (model prog w) A (isTrue (.BoolOp .Or (x :: rest) pos) env whole) Q s := by
  show wpG _ A (do
    match BoolOp.Or, ← isTrue x env (eval x env) with
    | .And, false => pure false
    | .Or, true => pure true
    | _, _ => allTrue .Or rest env) Q s
  refine wpG.bind (wpG.mono h fun c s' h' => ?_)
  cases c with
  | true => exact wpG.pure h'
  | false => exact h'
theorem wpG_isPlain {e : Expr} {whole : Sem Value} {Q : Bool → Shared → Prop} (h : wpG (model prog w) A whole (fun v s₁ => wpAny (model prog w) A (truthy v) Q NoE s₁) s)
    (he : isTrue e env whole = (do let v ← whole; standAt e.pos; holding [v] (truthy v)) := by rfl) : wpG (model prog w) A (isTrue e env whole) Q s := by
  rw [he]
  exact wpG.bind (wpG.mono h fun v s₁ h₁ => wpG.any (wpAny_bind (wpAny_standAt (wpAny_holding h₁))))
theorem wpG_Expr {e pos} {Q : Flow → Shared → Prop} (h : wpG (model prog w) A (eval e env) (fun v s' => match v with | .ref _ => False | _ => Q .next s') s)
    (hi : interactive env = false := by rfl) (hs : swapsWith e none pos.line env = pure false := by rfl) :
    wpG (model prog w) A (exec (.Expr e pos) env) Q s := by
  rw [exec_Expr env e pos hi hs]
  refine wpG.bindA (wpAny_standAt (wpG.bind (wpG.mono h fun v s' h' => ?_)))
  have hv : ∀ a, v ≠ .ref a := fun a hva => by subst hva; exact h'
  rw [dropValue_plain hv]
  refine wpG.pure ?_
  cases v <;> first | exact h' | exact (hv _ rfl).elim
theorem wpG_Assign_Name {x pos' value pos} {Q : Flow → Shared → Prop}
    (h : wpG (model prog w) A (eval value env) (fun v s₁ => wpAny (model prog w) A (storeName env x v) (fun _ => Q .next) NoE s₁) s)
    (hs : swapsWith value (some (.Name x pos')) pos.line env = pure false := by rfl) :
    wpG (model prog w) A (exec (.Assign [.Name x pos'] value pos) env) Q s := fun Γ p hΓ c d => by
  simp only [exec_Assign_Name env x pos' value pos hs, Sem.wp_bind', Sem.wp_cmd_standAt, Sem.wp_bindName, Sem.wp_pure']
  exact Sem.wp_mono _ Γ _ (fun v p' s' h' => h' Γ _ hΓ) (fun _ _ _ h' => h') _ _ (h Γ _ hΓ c d)
theorem wpG_Call_ {func : Expr} {args : List Expr} {pos : Pos} {Q : Value → Shared → Prop}
    (h : wpAny (model prog w) A (eval func env) (fun f s₁ => wpG (model prog w) A (callWith pos f [] (backTo pos (starEach args env)) []) Q s₁) NoE s)
    (he : eval (.Call func args [] pos) env = (do callWith pos (← eval func env) [] (backTo pos (starEach args env)) (backToKw pos (keywordEach [] env))) := by rfl) :
    wpG (model prog w) A (eval (.Call func args [] pos) env) Q s := by
  rw [he]; exact wpG.bindA h
theorem wpG_MethodCall_ {o : PySem.Expr} {name : Str} {apos pos : Pos} {args : List PySem.Expr} {pl : Sem Bool} {Q : Value → Shared → Prop}
    (h : wpAny (model prog w) A (eval o env) (fun ov s₁ => wpAny (model prog w) A (getMethod ov name pl) (fun fx s₂ => wpG (model prog w) A (callWith pos fx.1 fx.2 (backTo pos (starEach args env)) []) Q s₂) NoE s₁) NoE s)
    (he : eval (.Call (.Attribute o name apos) args [] pos) env = (do
      let ov ← eval o env
      standAt apos.atName
      let (f, first) ← holding [ov] (getMethod ov name pl)
      callWith pos f first (backTo pos (starEach args env)) []) := by rfl) :
    wpG (model prog w) A (eval (.Call (.Attribute o name apos) args [] pos) env) Q s := by
  rw [he]
  exact wpG.bindA (wpAny_mono h (fun ov s₁ h₁ => wpG.bindA (wpAny_standAt (wpG.bindA (wpAny_holding (wpAny_mono h₁ (fun fx s₂ h₂ => h₂) fun _ _ x => x))))) fun _ _ x => x)
theorem wpG_callWith_of {P : Heap → Prop} {pos : Pos} {f : Value} {first : List Value} {args : List (Bool × Sem Value)} {Q : Value → Shared → Prop} (hplain : args.any (·.1) = false)
    (hk : ∀ h, P h → ∃ k, (k = Keeper.frame ∨ k = Keeper.machine ∨ k = Keeper.boundFrame) ∧ Looks (model prog w) h (keeperOf f) k)
    (h : wpAny (model prog w) A (evalArgs f true args []) (fun a s₁ => P s₁.heap ∧ wpG (model prog w) A (call f (first ++ a.pos) a.kw) Q s₁) NoE s) : wpG (model prog w) A (callWith pos f first args []) Q s := by
  unfold callWith
  refine wpG.bindA (wpAny_holding (wpAny_mono h (fun a s₁ h₁ => wpG.bindA (wpAny_standAt ?_)) fun _ _ x => x))
  obtain ⟨k, hk', L⟩ := hk _ h₁.1
  simp only [hplain, List.any_nil, Bool.or_false]
  refine wpG.bindA (L.here ?_)
  have tail : ∀ {t : Sem Value}, wpG (model prog w) A t Q s₁ → wpG (model prog w) A (t >>= fun r => holding [r] point >>= fun _ => pure r) Q s₁ :=
    fun ht => wpG.bind (wpG.mono ht fun r s₂ hr => wpG.any (wpAny_bind (wpAny_holding (wpAny_point (wpAny_pure hr)))))
  have marked (mk : Value) : wpG (model prog w) A (callMarked mk f (first ++ a.pos) a.kw) Q s₁ := by unfold callMarked; exact wpG.keep h₁.2
  rcases hk' with rfl | rfl | rfl <;> dsimp only <;> first | exact tail h₁.2 | (split <;> first | exact tail h₁.2 | exact tail (marked _))
theorem wpG_callWith_K {K : Frag} {h₀ : Heap} {pos : Pos} {f : Value} {first : List Value} {e : PySem.Expr} {rest : List PySem.Expr} {Q : Value → Shared → Prop} (hk : keepIn K f = true)
    (h : wpAny (model prog w) A (spliced (backTo pos (starEach (e :: rest) env))) (fun vs s₁ => K.In s₁.heap ∧ wpG (model prog w) A (call f (first ++ vs)) Q s₁) NoE s)
    (he : starEach (e :: rest) env = (false, eval e env) :: starEach rest env := by rfl) (hplain : (backTo pos (starEach rest env)).any (·.1) = false := by rfl) :
    wpG (model prog w) A (callWith pos f first (backTo pos (starEach (e :: rest) env)) []) Q s := by
  rw [he] at h ⊢
  exact wpG_callWith_of (by show (false || (backTo pos (starEach rest env)).any (·.1)) = false; rw [hplain]; rfl) (keeps_K hk) (evalArgs_plain h)
theorem wpG_callWith_type {pos : Pos} {T : String} {e : PySem.Expr} {rest : List PySem.Expr} {Q : Value → Shared → Prop}
    (h : wpAny (model prog w) A (spliced (backTo pos (starEach (e :: rest) env))) (fun vs s₁ => wpG (model prog w) A (call (.type T) ([] ++ vs)) Q s₁) NoE s)
    (he : starEach (e :: rest) env = (false, eval e env) :: starEach rest env := by rfl) (hplain : (backTo pos (starEach rest env)).any (·.1) = false := by rfl) :
    wpG (model prog w) A (callWith pos (.type T) [] (backTo pos (starEach (e :: rest) env)) []) Q s := by
  rw [he] at h ⊢
  refine wpG_callWith_of (P := fun _ => True) (by show (false || (backTo pos (starEach rest env)).any (·.1)) = false; rw [hplain]; rfl) (fun _ _ => ⟨.machine, .inr (.inl rfl), .of_pure rfl⟩) (evalArgs_plain (wpAny_mono h (fun vs s' h' => ⟨trivial, h'⟩) fun _ _ x => x))
theorem codeG_forLoop {target it body env} {R : Result → Shared → Prop} (I : Nat → Shared → Prop)
    (turn : ∀ n s, I n s → wpAny (model prog w) A (pyNext it) (fun r s₁ => match r with
      | none => R (.ok .next) s₁
      | some v => wpAny (model prog w) A (assign target env v) (fun _ s₂ => wpG (model prog w) A (execs body env) (fun f s₃ => match f with
          | .next | .cont => ∃ m, m < n ∧ I m s₃
          | .brk => R (.ok .next) s₃
          | .ret v => R (.ok (.ret v)) s₃) s₂) NoE s₁) NoE s)
    (n : Nat) (h : I n s) (ht : ∀ v, letOwnedTupleGo target it v = pure () := by intro _; rfl) : codeG (model prog w) A (.forLoop target it body [] env) R s := by
  induction n using Nat.strongRecOn generalizing s with
  | ind n ih =>
    refine codeG.of_tree (fun _ _ e => nomatch e) ?_
    show wpG _ A ((forTurn target it body [] env).onRaise (fun x => do noteFrame x env; theTreesLotGoes x)) _ s
    refine wpG.onRaise ?_
    simp only [forTurn]
    refine wpG.bindA (wpAny_standAt (wpG.bind (wpG.onRaise (wpG.any (wpAny_mono (turn n s h) (fun r s₁ h₁ => ?_) fun _ _ h' => h')))))
    cases r with
    | none => exact wpG.pure ⟨rfl, codeG.any (codeAny_block (wpAny_execs_nil h₁))⟩
    | some v =>
      refine wpG.bindA (wpAny_of_eq (ht v) ?_)
      refine wpG.bindA (wpAny_mono h₁ (fun _ s₂ h₂ => wpG.bind (wpG.mono h₂ fun f s₃ h₃ => ?_)) fun _ _ h' => h')
      cases f with
      | next => obtain ⟨m, hm, hI⟩ := h₃; exact wpG.pure ⟨rfl, ih m hm hI⟩
      | cont => obtain ⟨m, hm, hI⟩ := h₃; exact wpG.pure ⟨rfl, ih m hm hI⟩
      | brk => exact wpG.pure h₃
      | ret v => exact wpG.pure h₃
theorem wpG_runOwn {c : Code} {Q : Flow → Shared → Prop} (hc : codeG (model prog w) A c (fun r s' => match r with | .ok f => Q f s' | .error e => False) s) : wpG (model prog w) A (runOwn c env) Q s := by
  unfold PySem.runOwn
  refine wpG.onRaise fun Γ p hΓ d f => ?_
  rw [Sem.wp_run]
  refine wpCode_mono (fun r s' h => ?_) (hc _ p rfl (hΓ.enter c none p (by intro x; cases x)) (Fine.cons d f))
  cases r with
  | error e => exact h
  | ok fl => exact h
theorem wpG_For {target iter body pos} {Q : Flow → Shared → Prop}
    (h : wpAny (model prog w) A (eval iter env) (fun x s₁ => wpAny (model prog w) A (pyIter x) (fun it s₂ =>
      codeG (model prog w) A (.forLoop target it body [] env) (fun r s' => match r with | .ok f => Q f s' | .error e => False) s₂) NoE s₁) NoE s)
    (hs : ∀ x, foldedSetIterable iter env x = pure x := by intro _; rfl) :
    wpG (model prog w) A (exec (.For target iter body [] pos) env) Q s := by
  rw [exec_For]
  exact wpG.bindA (wpAny_standAt (wpG.bindA (wpAny_mono h (fun x s₁ h₁ => wpG.bindA (wpAny_of_eq (hs x) (wpG.bindA (wpAny_standAt (wpG.bindA (wpAny_holding
    (wpAny_mono h₁ (fun it s₂ h₂ => wpG_runOwn h₂) fun _ _ h' => h'))))))) fun _ _ h' => h')))
end
set_option maxRecDepth 100000
theorem ba_slot_getitem : Slot "bytearray" "__getitem__" "bytearray.__getitem__" :=
  .of (owner := "bytearray") (n := "__getitem__") (by rw [typeLookup_type, builtinLookup_eq_fast]; kernel_rfl) (by decide +kernel) (by decide +kernel) (by decide +kernel)
    (by first | exact .inl (by decide +kernel) | exact .inr (by decide +kernel)) (by rw [isSubtype_type]; kernel_rfl)
theorem ba_entry_getitem : entryFor table "bytearray.__getitem__" = some Builtin.«bytearray.__getitem__» := by first | exact entryFor_of_fast (by kernel_rfl) | exact entryFor_of_tree (by kernel_rfl)
theorem ba_args_getitem (a b : Value) : argsOk "bytearray.__getitem__" ⟨[a, b], []⟩ := by unfold argsOk; kernel_rfl
theorem boot_bytearray : bootBuiltins "bytearray" = some (.type "bytearray") := by decide +kernel
section
variable {prog : Program} {w : World} {A : Around} {E : Value → Shared → Prop} {s : Shared}
theorem ba_getItem0 {D : Addr} {b : Array UInt8} {u : Tok} {c : UInt8} {Q : Value → Shared → Prop} (hD : s.heap.get? D = some (baObj b)) (hc : b[0]? = some c)
    (h : Q (.int c.toNat s.toks) { s with toks := s.toks + 1 }) : wpAny (model prog w) A (getItem (.ref D) (.int 0 u)) Q E s := by
  have hT : s.TypeIs (.ref D) "bytearray" := ⟨_, hD, rfl⟩
  unfold getItem
  try with_reducible refine wpAny_holding ?_
  first | refine wpAny_bind (wpAny_pure ?_) | skip
  refine wpAny_bind (wpAny_sequenceKey hT (by decide) ?_)
  refine wpAny_bind (wpAny_callSpecial?_slot (name := Str.ofString "__getitem__") hT ba_slot_getitem
    (wpAny_call_entry ba_slot_getitem hT ba_entry_getitem ?_ (ba_args_getitem _ _)))
  unfold Builtin.«bytearray.__getitem__»
  refine wpAny_bind (wpAny_of_eq (a := (.ref D, [.int 0 u])) rfl ?_)
  dsimp only
  refine wpAny_bind ?_
  unfold Builtin.Bytes.subscript?
  refine wpAny_bind (wpAny_specialOf (T := "int") (typeIs_int s 0 u) int_index ?_)
  show wpAny _ A.in1 (asIndex (.int 0 u) >>= _) _ _ s
  refine wpAny_bind (wpAny_of_eq (a := 0) rfl ?_)
  refine PySem.bm_if_false (by decide) ?_
  refine wpAny_pure ?_
  dsimp only
  refine wpAny_bind ?_
  unfold Builtin.Bytes.payload Builtin.Bytes.payload?
  refine wpAny_bind (wpAny_bind (wpAny_load hD ?_))
  refine wpAny_pure (wpAny_pure ?_)
  have hsz : 0 < b.size := by
    rcases Nat.eq_zero_or_pos b.size with e | e
    · rw [Array.getElem?_eq_none (by omega)] at hc; cases hc
    · exact e
  have hi : (seqIndex? 0 b.size).bind (b[·]?) = some c := by
    unfold seqIndex?
    simp [hsz]
    have := hc
    rw [Array.getElem?_eq_getElem hsz] at this
    exact Option.some.inj this
  rw [hi]
  first
    | exact wpAny_bind (wpAny_pure (wpAny_pure ⟨_, rfl, wpAny_pure h⟩))
    | exact wpAny_pure ⟨_, rfl, wpAny_pure h⟩
    | (dsimp only; unfold retInt; exact wpAny_bind (wpAny_mkInt (wpAny_pure ⟨_, rfl, wpAny_pure h⟩)))
    | (dsimp only; unfold retInt; exact wpAny_bind (wpAny_mkInt (wpAny_bind (wpAny_pure (wpAny_pure ⟨_, rfl, wpAny_pure h⟩)))))
theorem ba_item0 {D : Addr} {b : Array UInt8} {u : Tok} {c : UInt8} {value slice : Expr} {Q : Value → Shared → Prop} (hD : s.heap.get? D = some (baObj b)) (hc : b[0]? = some c)
    (h : Q (.int c.toNat s.toks) { s with toks := s.toks + 1 })
    (hs : subscripted slice false (.ref D) (.int 0 u) = operate [.ref D, .int 0 u] (getItem (.ref D) (.int 0 u)) := by with_unfolding_all rfl) :
    wpAny (model prog w) A (subscriptTail value slice (.ref D) (.int 0 u)) Q E s :=
  tail_any (show s.TypeIs (.ref D) "bytearray" from ⟨_, hD, rfl⟩) ba_slot_getitem.lookup (ba_getItem0 hD hc h) hs
theorem ba_item0n {D : Addr} {b : Array UInt8} {u : Tok} {n : Int} {value slice : Expr} {Q : Value → Shared → Prop} (hD : s.heap.get? D = some (baObj b)) (hc : (b[0]?).map (fun c => (c.toNat : Int)) = some n)
    (h : Q (.int n s.toks) { s with toks := s.toks + 1 })
    (hs : subscripted slice false (.ref D) (.int 0 u) = operate [.ref D, .int 0 u] (getItem (.ref D) (.int 0 u)) := by with_unfolding_all rfl) :
    wpAny (model prog w) A (subscriptTail value slice (.ref D) (.int 0 u)) Q E s := by
  obtain ⟨c, hc2, e⟩ := Option.map_eq_some_iff.mp hc
  subst e
  exact ba_item0 hD hc2 h hs
theorem ba_K {h₀ : Heap} {L : Addr} {m : Str → Option Value} {news : List (Addr × Obj)} {b : Array UInt8} {t : Tok} {Q : Value → Shared → Prop} (F : Fr h₀ L s.heap m) (N : News h₀ L s.heap news) (hg : A.guards = some []) (hb : b.size ≤ sizeLine)
    (h : ∀ D h', Fr h₀ L h' m → News h₀ L h' ((D, baObj b) :: news) → (∀ p ∈ news, p.1 < D) → Q (.ref D) { s with heap := h' }) : wpG (model prog w) A (call (.type "bytearray") [.bytes b t]) Q s := by
  refine ba_typeCallG hg hb fun h' hD hk => h _ h' (F.keptAll hk) (fun p hp => ?_) fun p hp => Heap.lt_size (N p hp).1
  rcases List.mem_cons.mp hp with rfl | hp
  · exact ⟨hD, Ne.symm (Nat.ne_of_lt F.ns.lt), next_is_new F⟩
  · exact N.grown hk p hp
end
section
theorem baW0 : ((byteArr (codesOf (Txt.ljust (Str.ofString "WORDS") 8 ++ Str.ofString "   ")))[0]?).map (fun c => (c.toNat : Int)) = some 87 := by decide +kernel
theorem baM0 : ((byteArr (codesOf (Txt.ljust (Str.ofString "MOMENT") 8 ++ Str.ofString "   ")))[0]?).map (fun c => (c.toNat : Int)) = some 77 := by decide +kernel
theorem News.head9 {h₀ h : Heap} {L : Addr} {D : Addr} {b : Array UInt8} {news : List (Addr × Obj)} (N : News h₀ L h ((D, baObj b) :: news)) : News h₀ L h ((D, baObj b) :: news) := N
theorem News.at9 {h₀ h : Heap} {L : Addr} {p : Addr × Obj} {news : List (Addr × Obj)} (N : News h₀ L h news) (hm : p ∈ news) : h.get? p.1 = some p.2 := (N p hm).1
theorem News.pre2 {h₀ h : Heap} {L : Addr} {a b : Addr × Obj} {news : List (Addr × Obj)} (N : News h₀ L h (a :: b :: news)) : News h₀ L h [a, b] := fun p hp => N p (by
  rcases List.mem_cons.mp hp with rfl | hp
  · exact List.mem_cons_self
  · rcases List.mem_cons.mp hp with rfl | hp
    · exact List.mem_cons_of_mem _ List.mem_cons_self
    · exact nomatch hp)
theorem News.post2 {h₀ h : Heap} {L : Addr} {a b : Addr × Obj} {news : List (Addr × Obj)} (N : News h₀ L h (a :: b :: news)) : News h₀ L h news := fun p hp => N p (List.mem_cons_of_mem _ (List.mem_cons_of_mem _ hp))
theorem off2 {x dx : Addr} {o p : Obj} {news : List (Addr × Obj)} (l1 : ∀ p ∈ news, p.1 < dx) (l2 : dx < x) : ∀ q ∈ news, ∀ r ∈ [(x, o), (dx, p)], q.1 ≠ r.1 := fun q hq r hr => by
  have h1 := l1 q hq
  rcases List.mem_cons.mp hr with rfl | hr
  · exact Nat.ne_of_lt (Nat.lt_trans h1 l2)
  · rcases List.mem_cons.mp hr with rfl | hr
    · exact Nat.ne_of_lt h1
    · exact nomatch hr
noncomputable abbrev shortD (w : World) (k1 k2 k3 : Tok) (v1 v2 v3 : Value) : Obj := dictOf [ent w "name" k1 v1, ent w "encoding" k2 v2, ent w "initialized" k3 v3] 3
local macro_rules | `(tactic| boot_fact) => `(tactic| with_reducible exact boot_bytearray)
local macro_rules | `(tactic| walk_at "subscriptTail") => `(tactic| (k_here; (with_reducible show wpAny _ _ (subscriptTail _ _ (Value.ref _) (Value.int 0 _)) _ _ _); (refine' ba_item0n (News.at9 (News.head9 (by assumption)) List.mem_cons_self) (by assumption) ?_); (try dsimp only)))
set_option maxRecDepth 100000 in
set_option maxHeartbeats 8000000 in
theorem cSet {w : World} {mean : ExcName → Option Value} {mg mb : Str → Option Value} {dp un : Nat} {cn : Str} {nm : List (Str × NameKind)} {ig ic : Bool} {mo : List (Str × Const)} {a : Addr} {ccd : Value} {cl : List (Str × Addr)} {outer : List Env} {A₀ : Around} {base h₀ : Heap} {L : Addr} {m : Str → Option Value} {news : List (Addr × Obj)} {s : Shared} {Q : Value → Shared → Prop}
  (B : Below A₀ base outer h₀) (F : Fr h₀ L s.heap m) (X : (Mine.hd.heap_39 w.params).In h₀) (T : Top topProg LOOSE mean mg mb h₀) (hdp : dp + 30 < recursionLimit)
  {S : Str} (hS : Padded S) {c0 : Int} (h0 : ((byteArr (codesOf (Txt.ljust S 8 ++ Str.ofString "   ")))[0]?).map (fun c => (c.toNat : Int)) = some c0) (hn : c0 ≠ 229)
  {x dx : Addr} {k1 k2 k3 t0 t2 : Tok} (N : News h₀ L s.heap ((x, instObj 305 dx) :: (dx, shortD w k1 k2 k3 .none (.str (Str.ofString "latin-1") t2) (.bool false)) :: news)) (l1 : ∀ p ∈ news, p.1 < dx) (l2 : dx < x)
  (ok : ∀ h' tk', Fr h₀ L h' m → News h₀ L h' news → Q .none { s with heap := h', toks := tk' })
  : wpG (model PySem.Challenge.rw_jr0027_01.row.prog w) (aT none dp un (some []) cn ⟨.function, nm, ig, ic, mo⟩ L a ccd cl outer) (call (.ref 254) [.ref x, .str S t0]) Q s := by
  have mkS : StopAt [162, 279, 289] := ⟨⟩
  have l3 := l2
  k_lt2 l3
  refine wpG.call ?_
  (refine' code_defGE (binds := [((Str.ofString "self"), .ref x), ((Str.ofString "name"), .str S t0)]) ?k1 ?k2 ?k3 (News.pre2 N) (News.post2 N) (off2 l1 l2) ?k5 ?kA ?k6 ?k7 ?k8 ?k9 ?kB ?_ ?cK ?c2 ?c3 ?c4 ?c5; (case kA => exact rfl); (case k1 => k_asm); (case k2 => k_asm); (case k3 => k_asm); (case k5 => k_asm); (case k6 => k_is); (case k7 => k_is); (case k8 => k_room); (case k9 => first | exact BindsTo.of_eq rfl | exact binds_K (by k_in) rfl (by k_is) rfl rfl rfl | fail "enterE: no rule for these arguments"); (case kB => exact locs rfl); (case cK => exact rfl); (case c2 => exact rfl); (case c3 => exact rfl); (case c4 => exact rfl); (case c5 => decide); k_whole; intro g' L' h' FG' F' N' B' X' T'; (try dsimp only); (try k_lift B'); (try k_fold))
  refine wpG.group (l₁ := [_, _]) ?_
  k_steps
  repeat' (refine Later.mk ?_; (first
    | (k_here; (with_reducible show wpAny _ _ (call (Value.ref 279) _) _ _ _); k_dflt (refine' cConf ?z9B ?z9F ?z9X ?z9N ?z9T ?z9d hS.toPlain ?_; (case z9B => k_asm); (case z9F => k_asm); (case z9X => k_asm); (case z9N => k_asm); (case z9T => k_asm); (case z9d => k_room); k_whole); intro h' tk' F' N'; (try k_sweep); (try dsimp only))
    | (k_here; (with_reducible show wpAny _ _ (call (Value.ref 289) _) _ _ _); k_dflt (refine' cPad ?z9B ?z9F ?z9X ?z9N ?z9T ?z9d hS ?_; (case z9B => k_asm); (case z9F => k_asm); (case z9X => k_asm); (case z9N => k_asm); (case z9T => k_asm); (case z9d => k_room); k_whole); intro t' h' tk' F' N'; (try k_sweep); (try dsimp only))
    | (k_dflt (refine' cEncoded ?z9B ?z9F ?z9X ?z9N ?z9T ?z9d hS.pa hS.pz ?_; (case z9B => k_asm); (case z9F => k_asm); (case z9X => k_asm); (case z9N => k_asm); (case z9T => k_asm); (case z9d => k_room); k_whole); intro tb' h' tk' F' N'; (try k_sweep); (try dsimp only))); k_steps)
  dsimp only
  refine wpG.cons (wpG_Assign_Name (wpG_Call_ ?_))
  k_steps
  repeat' (refine Later.mk ?_; (first
    | (k_here; (with_reducible show wpAny _ _ (call (Value.ref 279) _) _ _ _); k_dflt (refine' cConf ?z9B ?z9F ?z9X ?z9N ?z9T ?z9d hS.toPlain ?_; (case z9B => k_asm); (case z9F => k_asm); (case z9X => k_asm); (case z9N => k_asm); (case z9T => k_asm); (case z9d => k_room); k_whole); intro h' tk' F' N'; (try k_sweep); (try dsimp only))
    | (k_here; (with_reducible show wpAny _ _ (call (Value.ref 289) _) _ _ _); k_dflt (refine' cPad ?z9B ?z9F ?z9X ?z9N ?z9T ?z9d hS ?_; (case z9B => k_asm); (case z9F => k_asm); (case z9X => k_asm); (case z9N => k_asm); (case z9T => k_asm); (case z9d => k_room); k_whole); intro t' h' tk' F' N'; (try k_sweep); (try dsimp only))
    | (k_dflt (refine' cEncoded ?z9B ?z9F ?z9X ?z9N ?z9T ?z9d hS.pa hS.pz ?_; (case z9B => k_asm); (case z9F => k_asm); (case z9X => k_asm); (case z9N => k_asm); (case z9T => k_asm); (case z9d => k_room); k_whole); intro tb' h' tk' F' N'; (try k_sweep); (try dsimp only))); k_steps)
  refine wpG_callWith_type ?_
  k_steps
  repeat' (refine Later.mk ?_; (first
    | (k_here; (with_reducible show wpAny _ _ (call (Value.ref 279) _) _ _ _); k_dflt (refine' cConf ?z9B ?z9F ?z9X ?z9N ?z9T ?z9d hS.toPlain ?_; (case z9B => k_asm); (case z9F => k_asm); (case z9X => k_asm); (case z9N => k_asm); (case z9T => k_asm); (case z9d => k_room); k_whole); intro h' tk' F' N'; (try k_sweep); (try dsimp only))
    | (k_here; (with_reducible show wpAny _ _ (call (Value.ref 289) _) _ _ _); k_dflt (refine' cPad ?z9B ?z9F ?z9X ?z9N ?z9T ?z9d hS ?_; (case z9B => k_asm); (case z9F => k_asm); (case z9X => k_asm); (case z9N => k_asm); (case z9T => k_asm); (case z9d => k_room); k_whole); intro t' h' tk' F' N'; (try k_sweep); (try dsimp only))
    | (k_dflt (refine' cEncoded ?z9B ?z9F ?z9X ?z9N ?z9T ?z9d hS.pa hS.pz ?_; (case z9B => k_asm); (case z9F => k_asm); (case z9X => k_asm); (case z9N => k_asm); (case z9T => k_asm); (case z9d => k_room); k_whole); intro tb' h' tk' F' N'; (try k_sweep); (try dsimp only))); k_steps)
  (try dsimp only [List.nil_append])
  refine ba_K (by k_asm) (by k_asm) rfl hS.bz fun D h' F' N' l1 => ?_
  (try k_lt l1)
  k_steps
  repeat' (refine Later.mk ?_; (first
    | (k_here; (with_reducible show wpAny _ _ (call (Value.ref 279) _) _ _ _); k_dflt (refine' cConf ?z9B ?z9F ?z9X ?z9N ?z9T ?z9d hS.toPlain ?_; (case z9B => k_asm); (case z9F => k_asm); (case z9X => k_asm); (case z9N => k_asm); (case z9T => k_asm); (case z9d => k_room); k_whole); intro h' tk' F' N'; (try k_sweep); (try dsimp only))
    | (k_here; (with_reducible show wpAny _ _ (call (Value.ref 289) _) _ _ _); k_dflt (refine' cPad ?z9B ?z9F ?z9X ?z9N ?z9T ?z9d hS ?_; (case z9B => k_asm); (case z9F => k_asm); (case z9X => k_asm); (case z9N => k_asm); (case z9T => k_asm); (case z9d => k_room); k_whole); intro t' h' tk' F' N'; (try k_sweep); (try dsimp only))
    | (k_dflt (refine' cEncoded ?z9B ?z9F ?z9X ?z9N ?z9T ?z9d hS.pa hS.pz ?_; (case z9B => k_asm); (case z9F => k_asm); (case z9X => k_asm); (case z9N => k_asm); (case z9T => k_asm); (case z9d => k_room); k_whole); intro tb' h' tk' F' N'; (try k_sweep); (try dsimp only))); k_steps)
  refine wpG.any ?_
  k_steps
  repeat' (refine Later.mk ?_; (first
    | (k_here; (with_reducible show wpAny _ _ (call (Value.ref 279) _) _ _ _); k_dflt (refine' cConf ?z9B ?z9F ?z9X ?z9N ?z9T ?z9d hS.toPlain ?_; (case z9B => k_asm); (case z9F => k_asm); (case z9X => k_asm); (case z9N => k_asm); (case z9T => k_asm); (case z9d => k_room); k_whole); intro h' tk' F' N'; (try k_sweep); (try dsimp only))
    | (k_here; (with_reducible show wpAny _ _ (call (Value.ref 289) _) _ _ _); k_dflt (refine' cPad ?z9B ?z9F ?z9X ?z9N ?z9T ?z9d hS ?_; (case z9B => k_asm); (case z9F => k_asm); (case z9X => k_asm); (case z9N => k_asm); (case z9T => k_asm); (case z9d => k_room); k_whole); intro t' h' tk' F' N'; (try k_sweep); (try dsimp only))
    | (k_dflt (refine' cEncoded ?z9B ?z9F ?z9X ?z9N ?z9T ?z9d hS.pa hS.pz ?_; (case z9B => k_asm); (case z9F => k_asm); (case z9X => k_asm); (case z9N => k_asm); (case z9T => k_asm); (case z9d => k_room); k_whole); intro tb' h' tk' F' N'; (try k_sweep); (try dsimp only))); k_steps)
  all_goals first
    | exact ok _ _ (by assumption) (by assumption)
    | exact absurd (by assumption) hn
end
noncomputable abbrev fatD (w : World) (k1 k2 k3 k4 k5 k6 k7 k8 k9 k10 k11 k12 k13 k14 k15 k16 k17 k18 : Tok) (v1 v2 v3 v4 v5 v6 v7 v8 v9 v10 v11 v12 v13 v14 v15 v16 v17 v18 : Value) : Obj := dictOf [ent w "name" k1 v1, ent w "attr" k2 v2, ent w "ntres" k3 v3, ent w "crttimetenth" k4 v4, ent w "crttime" k5 v5, ent w "crtdate" k6 v6, ent w "lstaccessdate" k7 v7, ent w "fstclushi" k8 v8, ent w "wrttime" k9 v9, ent w "wrtdate" k10 v10, ent w "fstcluslo" k11 v11, ent w "filesize" k12 v12, ent w "_lazy_load" k13 v13, ent w "_fs" k14 v14, ent w "_parent" k15 v15, ent w "lfn_entry" k16 v16, ent w "_dirs" k17 v17, ent w "_encoding" k18 v18] 18
set_option maxRecDepth 100000 in
set_option maxHeartbeats 8000000 in
theorem cFat {w : World} {mean : ExcName → Option Value} {mg mb : Str → Option Value} {dp un : Nat} {gd : Option (List Code)} {cn : Str} {nm : List (Str × NameKind)} {ig ic : Bool} {mo : List (Str × Const)} {a : Addr} {ccd : Value} {cl : List (Str × Addr)} {outer : List Env} {A₀ : Around} {base h₀ : Heap} {L : Addr} {m : Str → Option Value} {news : List (Addr × Obj)} {s : Shared} {Q E : Value → Shared → Prop}
  (B : Below A₀ base outer h₀) (F : Fr h₀ L s.heap m) (X : (Mine.hd.heap_39 w.params).In h₀) (N : News h₀ L s.heap news) (T : Top topProg LOOSE mean mg mb h₀) (hdp : dp + 12 < recursionLimit)
  {v ve : Value} {ct cd ad wt wd : Int} {t1 t2 t3 t4 t5 t6 t7 t8 t9 t10 t11 : Tok} {args : List Value} {kws : List (Str × Value)} {oc : Value} {od : Option Addr} {osl : Array (Option Value)} {fd : FuncData} (hfd : (Mine.hd.heap_39 w.params).lookup 325 = some ⟨oc, od, .func fd, osl⟩) (hb : ∀ (s : Shared) (x' : Addr), (Mine.hd.heap_39 w.params).In s.heap → BindsTo s fd ⟨.ref x' :: args, kws⟩ [(Str.ofString "self", .ref x'), (Str.ofString "DIR_Name", v), (Str.ofString "DIR_Attr", .int 0 t1), (Str.ofString "DIR_NTRes", .int 0 t2), (Str.ofString "DIR_CrtTimeTenth", .int 0 t3), (Str.ofString "DIR_CrtTime", .int ct t4), (Str.ofString "DIR_CrtDate", .int cd t5), (Str.ofString "DIR_LstAccessDate", .int ad t6), (Str.ofString "DIR_FstClusHI", .int 0 t7), (Str.ofString "DIR_WrtTime", .int wt t8), (Str.ofString "DIR_WrtDate", .int wd t9), (Str.ofString "DIR_FstClusLO", .int 0 t10), (Str.ofString "DIR_FileSize", .int 0 t11), (Str.ofString "encoding", ve), (Str.ofString "fs", .none), (Str.ofString "lazy_load", .bool false), (Str.ofString "lfn_entry", .none)])
  (ok : ∀ x' d' ld k1 k2 k3 k4 k5 k6 k7 k8 k9 k10 k11 k12 k13 k14 k15 k16 k17 k18 h' tk', Fr h₀ L h' m → News h₀ L h' ((x', instObj 595 d') :: (d', fatD w k1 k2 k3 k4 k5 k6 k7 k8 k9 k10 k11 k12 k13 k14 k15 k16 k17 k18 (v) (.int 0 t1) (.int 0 t2) (.int 0 t3) (.int ct t4) (.int cd t5) (.int ad t6) (.int 0 t7) (.int wt t8) (.int wd t9) (.int 0 t10) (.int 0 t11) (.bool false) (.none) (.none) (.none) (.ref ld) (ve)) :: news) → (∀ p ∈ news, p.1 < d') → d' < x' → Q (.ref x') { s with heap := h', toks := tk' })
  : wpAny (model PySem.Challenge.rw_jr0027_01.row.prog w) (aT none dp un gd cn ⟨.function, nm, ig, ic, mo⟩ L a ccd cl outer) (call (.ref 595) args kws) Q E s := by
  (refine' call_cls ?k1 ?k2 ?k3 ?k4 ?k5 ?k6 ?_; (case k1 => k_asm); (case k2 => k_asm); (case k3 => k_asm); (case k4 => k_is); (case k5 => k_is); (case k6 => k_is); k_whole; intro x' d' h' F' N' l1 l2; have l3 := l2; k_lt2 l3)
  (refine' code_defE (binds := [((Str.ofString "self"), .ref x'), ((Str.ofString "DIR_Name"), v), ((Str.ofString "DIR_Attr"), .int 0 t1), ((Str.ofString "DIR_NTRes"), .int 0 t2), ((Str.ofString "DIR_CrtTimeTenth"), .int 0 t3), ((Str.ofString "DIR_CrtTime"), .int ct t4), ((Str.ofString "DIR_CrtDate"), .int cd t5), ((Str.ofString "DIR_LstAccessDate"), .int ad t6), ((Str.ofString "DIR_FstClusHI"), .int 0 t7), ((Str.ofString "DIR_WrtTime"), .int wt t8), ((Str.ofString "DIR_WrtDate"), .int wd t9), ((Str.ofString "DIR_FstClusLO"), .int 0 t10), ((Str.ofString "DIR_FileSize"), .int 0 t11), ((Str.ofString "encoding"), ve), ((Str.ofString "fs"), .none), ((Str.ofString "lazy_load"), .bool false), ((Str.ofString "lfn_entry"), .none)]) ?k1 ?k2 ?k3 (News.pre2 N') (News.post2 N') (off2 l1 l2) ?k5 ?kA ?k6 ?k7 ?k8 ?k9 ?kB ?_ ?cK ?c2 ?c3 ?c4 ?c5; (case kA => exact rfl); (case k1 => k_asm); (case k2 => k_asm); (case k3 => k_asm); (case k5 => k_asm); (case k6 => k_is); (case k7 => k_is); (case k8 => k_room); (case k9 => (refine' bindsOf hfd ?z9ho (hb _ _ (by k_in)); (case z9ho => k_is))); (case kB => exact locs rfl); (case cK => exact rfl); (case c2 => exact rfl); (case c3 => exact rfl); (case c4 => exact rfl); (case c5 => decide); k_whole; intro g' L' h' FG' F' N' B' X' T'; (try dsimp only); (try k_lift B'); (try k_fold))
  k_steps
  (with_reducible rename News h₀ _ _ (_ :: _) => kN9)
  refine' ok _ _ _ _ _ _ _ _ _ _ _ _ _ _ _ _ _ _ _ _ _ _ _ ?z9f (News.app (News.drop9 ?z9n (subC ?z9a (subC ?z9b subNil))) ?z9t) l1 l2; (case z9n => exact kN9); (case z9a => k_mem); (case z9b => k_mem); (case z9f => assumption); (case z9t => assumption)
end Mine
end
section
namespace Mine
local macro_rules | `(tactic| walk_at "callWith ref") => `(tactic| (k_here; (with_reducible show wpAny _ _ (callWith _ (Value.ref _) _ (backTo _ (starEach [] _)) []) _ _ _); k_dflt (refine' callWith_K9 ?k1 ?k2 ?k3 ?_; (case k1 => k_asm); (case k2 => k_asm); (case k3 => k_is); k_whole); (try dsimp only [List.nil_append, List.cons_append])))
section
local macro_rules | `(tactic| k_steps) => `(tactic| repeat' (first | (k_unfold; (try dsimp only)) | (k_end; wrow_close) | (walk1; (all_goals (try (conv => arg 6; dsimp only)))) | (dsimp only; walk1) | (leave1; walk_say "STEP leave1"; try dsimp only) | fail "no step"))
set_option maxRecDepth 100000 in
set_option maxHeartbeats 8000000 in
theorem cSerD {w : World} {mean : ExcName → Option Value} {mg mb : Str → Option Value} {dp un : Nat} {gd : Option (List Code)} {cn : Str} {nm : List (Str × NameKind)} {ig ic : Bool} {mo : List (Str × Const)} {a : Addr} {ccd : Value} {cl : List (Str × Addr)} {outer : List Env} {A₀ : Around} {base h₀ : Heap} {L : Addr} {m : Str → Option Value} {news : List (Addr × Obj)} {s : Shared} {Q E : Value → Shared → Prop}
  (B : Below A₀ base outer h₀) (F : Fr h₀ L s.heap m) (X : (Mine.hd.heap_39 w.params).In h₀) (N : News h₀ L s.heap news) (T : Top topProg LOOSE mean mg mb h₀) (hdp : dp + 12 < recursionLimit)
  {x dx : Addr} {o : Obj} {y mo' d h mi sec : Int} (hx : (x, instObj 104 dx) ∈ news) (hd : (dx, o) ∈ news) (ho : IsDate w o y mo' d h mi sec) (hy : 1980 ≤ y ∧ y ≤ 9999) (hm : 0 ≤ mo' ∧ mo' ≤ 15) (hd' : 0 ≤ d ∧ d ≤ 31)
  (ok : ∀ t h' tk', Fr h₀ L h' m → News h₀ L h' news → Q (.int ((y - 1980) * 512 + mo' * 32 + d) t) { s with heap := h', toks := tk' })
  : wpAny (model PySem.Challenge.rw_jr0027_01.row.prog w) (aT none dp un gd cn ⟨.function, nm, ig, ic, mo⟩ L a ccd cl outer) (call (.ref 74) [.ref x]) Q E s := by
  obtain ⟨k1, k2, k3, k4, k5, k6, t1, t2, t3, t4, t5, t6, rfl⟩ := ho
  refine wpAny_call ?_
  (refine' code_defE (binds := [((Str.ofString "self"), .ref x)]) ?k1 ?k2 ?k3 (fun p hp => N p (sub2 hx hd p hp)) (News.rest N) off_rest ?k5 ?kA ?k6 ?k7 ?k8 ?k9 ?kB ?_ ?cK ?c2 ?c3 ?c4 ?c5; (case kA => exact rfl); (case k1 => k_asm); (case k2 => k_asm); (case k3 => k_asm); (case k5 => k_asm); (case k6 => k_is); (case k7 => k_is); (case k8 => k_room); (case k9 => first | exact BindsTo.of_eq rfl | exact binds_K (by k_in) rfl (by k_is) rfl rfl rfl | fail "enterE: no rule for these arguments"); (case kB => exact locs rfl); (case cK => exact rfl); (case c2 => exact rfl); (case c3 => exact rfl); (case c4 => exact rfl); (case c5 => decide); k_whole; intro g' L' h' FG' F' N' B' X' T'; (try dsimp only); (try k_lift B'); (try k_fold))
  k_steps
  repeat' (refine Later.mk ?_; (first | (k_here; (with_reducible show wpAny _ _ (call (Value.ref 104) [Value.int 1980 _, Value.int 1 _, Value.int 1 _]) _ _ _); k_dflt (refine' cDate0 ?z9B ?z9F ?z9X ?z9N ?z9T ?z9d ?_; (case z9B => k_asm); (case z9F => k_asm); (case z9X => k_asm); (case z9N => k_asm); (case z9T => k_asm); (case z9d => k_room); k_whole); intro x' d' k1' k2' k3' k4' k5' k6' t4' t5' t6' h' tk' F' N' l1 l2; (try k_lt l1); (try k_lt2 l2); (try k_sweep); (try dsimp only)) | (k_here; (with_reducible show wpAny _ _ (call (Value.ref 104) [Value.int _ _, Value.int _ _, Value.int _ _, Value.int _ _, Value.int _ _, Value.int _ _]) _ _ _); k_dflt (refine' cDate6 ?z9B ?z9F ?z9X ?z9N ?z9T ?z9d (fun hda' hok' x' d' k1' k2' k3' k4' k5' k6' h' tk' F' N' l1 l2 => ?_) (fun hnt' g' e' t' vs' h' tk' F' R' U' => ?_); (case z9B => k_asm); (case z9F => k_asm); (case z9X => k_asm); (case z9N => k_asm); (case z9T => k_asm); (case z9d => k_room); (all_goals k_whole)); (all_goals ((try k_lt l1); (try k_lt2 l2); (try k_sweep); (try (exact absurd ⟨by first | exact okDY _ | assumption, by first | exact okTH _ | exact okT0 | assumption⟩ hnt')); (try dsimp only)))) | (k_here; (with_reducible show wpAny _ _ (call (Value.ref 104) [Value.int _ _, Value.int _ _, Value.int _ _]) _ _ _); k_dflt (refine' cDate3 ?z9B ?z9F ?z9X ?z9N ?z9T ?z9d (fun hda' hok' x' d' k1' k2' k3' k4' k5' k6' h' tk' F' N' l1 l2 => ?_) (fun hnt' g' e' t' vs' h' tk' F' R' U' => ?_); (case z9B => k_asm); (case z9F => k_asm); (case z9X => k_asm); (case z9N => k_asm); (case z9T => k_asm); (case z9d => k_room); (all_goals k_whole)); (all_goals ((try k_lt l1); (try k_lt2 l2); (try k_sweep); (try (exact absurd ⟨by first | exact okDY _ | assumption, by first | exact okTH _ | exact okT0 | assumption⟩ hnt')); (try dsimp only))))); k_steps)
  (with_reducible rename News _ _ _ (_ :: _) => kN9)
  rw [serD hy.1 hm hd']
  exact ok _ _ _ (by assumption) (News.whole N (sub2 hx hd) (News.drop9 kN9 (sub2 (by k_mem) (by k_mem))) (by assumption))
set_option maxRecDepth 100000 in
set_option maxHeartbeats 8000000 in
theorem cSerT {w : World} {mean : ExcName → Option Value} {mg mb : Str → Option Value} {dp un : Nat} {gd : Option (List Code)} {cn : Str} {nm : List (Str × NameKind)} {ig ic : Bool} {mo : List (Str × Const)} {a : Addr} {ccd : Value} {cl : List (Str × Addr)} {outer : List Env} {A₀ : Around} {base h₀ : Heap} {L : Addr} {m : Str → Option Value} {news : List (Addr × Obj)} {s : Shared} {Q E : Value → Shared → Prop}
  (B : Below A₀ base outer h₀) (F : Fr h₀ L s.heap m) (X : (Mine.hd.heap_39 w.params).In h₀) (N : News h₀ L s.heap news) (T : Top topProg LOOSE mean mg mb h₀) (hdp : dp + 12 < recursionLimit)
  {x dx : Addr} {o : Obj} {y mo' d h mi sec : Int} (hx : (x, instObj 104 dx) ∈ news) (hd : (dx, o) ∈ news) (ho : IsDate w o y mo' d h mi sec) (hh : 0 ≤ h ∧ h ≤ 23) (hm : 0 ≤ mi ∧ mi ≤ 63) (hs : 0 ≤ sec ∧ sec ≤ 59)
  (ok : ∀ t h' tk', Fr h₀ L h' m → News h₀ L h' news → Q (.int (h * 2048 + mi * 32 + sec.fdiv 2) t) { s with heap := h', toks := tk' })
  : wpAny (model PySem.Challenge.rw_jr0027_01.row.prog w) (aT none dp un gd cn ⟨.function, nm, ig, ic, mo⟩ L a ccd cl outer) (call (.ref 81) [.ref x]) Q E s := by
  obtain ⟨k1, k2, k3, k4, k5, k6, t1, t2, t3, t4, t5, t6, rfl⟩ := ho
  refine wpAny_call ?_
  (refine' code_defE (binds := [((Str.ofString "self"), .ref x)]) ?k1 ?k2 ?k3 (fun p hp => N p (sub2 hx hd p hp)) (News.rest N) off_rest ?k5 ?kA ?k6 ?k7 ?k8 ?k9 ?kB ?_ ?cK ?c2 ?c3 ?c4 ?c5; (case kA => exact rfl); (case k1 => k_asm); (case k2 => k_asm); (case k3 => k_asm); (case k5 => k_asm); (case k6 => k_is); (case k7 => k_is); (case k8 => k_room); (case k9 => first | exact BindsTo.of_eq rfl | exact binds_K (by k_in) rfl (by k_is) rfl rfl rfl | fail "enterE: no rule for these arguments"); (case kB => exact locs rfl); (case cK => exact rfl); (case c2 => exact rfl); (case c3 => exact rfl); (case c4 => exact rfl); (case c5 => decide); k_whole; intro g' L' h' FG' F' N' B' X' T'; (try dsimp only); (try k_lift B'); (try k_fold))
  k_steps
  repeat' (refine Later.mk ?_; (first | (k_here; (with_reducible show wpAny _ _ (call (Value.ref 104) [Value.int 1980 _, Value.int 1 _, Value.int 1 _]) _ _ _); k_dflt (refine' cDate0 ?z9B ?z9F ?z9X ?z9N ?z9T ?z9d ?_; (case z9B => k_asm); (case z9F => k_asm); (case z9X => k_asm); (case z9N => k_asm); (case z9T => k_asm); (case z9d => k_room); k_whole); intro x' d' k1' k2' k3' k4' k5' k6' t4' t5' t6' h' tk' F' N' l1 l2; (try k_lt l1); (try k_lt2 l2); (try k_sweep); (try dsimp only)) | (k_here; (with_reducible show wpAny _ _ (call (Value.ref 104) [Value.int _ _, Value.int _ _, Value.int _ _, Value.int _ _, Value.int _ _, Value.int _ _]) _ _ _); k_dflt (refine' cDate6 ?z9B ?z9F ?z9X ?z9N ?z9T ?z9d (fun hda' hok' x' d' k1' k2' k3' k4' k5' k6' h' tk' F' N' l1 l2 => ?_) (fun hnt' g' e' t' vs' h' tk' F' R' U' => ?_); (case z9B => k_asm); (case z9F => k_asm); (case z9X => k_asm); (case z9N => k_asm); (case z9T => k_asm); (case z9d => k_room); (all_goals k_whole)); (all_goals ((try k_lt l1); (try k_lt2 l2); (try k_sweep); (try (exact absurd ⟨by first | exact okDY _ | assumption, by first | exact okTH _ | exact okT0 | assumption⟩ hnt')); (try dsimp only)))) | (k_here; (with_reducible show wpAny _ _ (call (Value.ref 104) [Value.int _ _, Value.int _ _, Value.int _ _]) _ _ _); k_dflt (refine' cDate3 ?z9B ?z9F ?z9X ?z9N ?z9T ?z9d (fun hda' hok' x' d' k1' k2' k3' k4' k5' k6' h' tk' F' N' l1 l2 => ?_) (fun hnt' g' e' t' vs' h' tk' F' R' U' => ?_); (case z9B => k_asm); (case z9F => k_asm); (case z9X => k_asm); (case z9N => k_asm); (case z9T => k_asm); (case z9d => k_room); (all_goals k_whole)); (all_goals ((try k_lt l1); (try k_lt2 l2); (try k_sweep); (try (exact absurd ⟨by first | exact okDY _ | assumption, by first | exact okTH _ | exact okT0 | assumption⟩ hnt')); (try dsimp only))))); k_steps)
  (with_reducible rename News _ _ _ (_ :: _) => kN9)
  rw [serT' hh.1 hm hs]
  exact ok _ _ _ (by assumption) (News.whole N (sub2 hx hd) (News.drop9 kN9 (sub2 (by k_mem) (by k_mem))) (by assumption))
set_option maxRecDepth 100000 in
set_option maxHeartbeats 8000000 in
theorem cComb {w : World} {mean : ExcName → Option Value} {mg mb : Str → Option Value} {dp un : Nat} {gd : Option (List Code)} {cn : Str} {nm : List (Str × NameKind)} {ig ic : Bool} {mo : List (Str × Const)} {a : Addr} {ccd : Value} {cl : List (Str × Addr)} {outer : List Env} {A₀ : Around} {base h₀ : Heap} {L : Addr} {m : Str → Option Value} {news : List (Addr × Obj)} {s : Shared} {Q E : Value → Shared → Prop}
  (B : Below A₀ base outer h₀) (F : Fr h₀ L s.heap m) (X : (Mine.hd.heap_39 w.params).In h₀) (N : News h₀ L s.heap news) (T : Top topProg LOOSE mean mg mb h₀) (hdp : dp + 20 < recursionLimit)
  {x dx z dz : Addr} {o p : Obj} {y mo' d h mi sec h0 mi0 sec0 : Int} (hx : (x, instObj 104 dx) ∈ news) (hd : (dx, o) ∈ news) (ho : IsDate w o y mo' d h0 mi0 sec0) (hz : (z, instObj 38 dz) ∈ news) (hdz : (dz, p) ∈ news) (hp : IsTime w p h mi sec) (hv : okDay y mo' d) (hv' : okTime h mi sec)
  (ok : ∀ x' d' o', IsDate w o' y mo' d h mi sec → ∀ h' tk', Fr h₀ L h' m → News h₀ L h' ((x', instObj 104 d') :: (d', o') :: news) → Q (.ref x') { s with heap := h', toks := tk' })
  : wpAny (model PySem.Challenge.rw_jr0027_01.row.prog w) (aT none dp un gd cn ⟨.function, nm, ig, ic, mo⟩ L a ccd cl outer) (call (.ref 64) [.ref x, .ref z]) Q E s := by
  have mkS : StopAt [104] := ⟨⟩
  obtain ⟨k1, k2, k3, k4, k5, k6, t1, t2, t3, t4, t5, t6, rfl⟩ := ho
  obtain ⟨j1, j2, j3, u1, u2, u3, rfl⟩ := hp
  refine wpAny_call ?_
  (refine' code_defE (binds := [((Str.ofString "date"), .ref x), ((Str.ofString "time"), .ref z)]) ?k1 ?k2 ?k3 (fun p hp => N p (sub4 hx hd hz hdz p hp)) (News.rest N) off_rest ?k5 ?kA ?k6 ?k7 ?k8 ?k9 ?kB ?_ ?cK ?c2 ?c3 ?c4 ?c5; (case kA => exact rfl); (case k1 => k_asm); (case k2 => k_asm); (case k3 => k_asm); (case k5 => k_asm); (case k6 => k_is); (case k7 => k_is); (case k8 => k_room); (case k9 => first | exact BindsTo.of_eq rfl | exact binds_K (by k_in) rfl (by k_is) rfl rfl rfl | fail "enterE: no rule for these arguments"); (case kB => exact locs rfl); (case cK => exact rfl); (case c2 => exact rfl); (case c3 => exact rfl); (case c4 => exact rfl); (case c5 => decide); k_whole; intro g' L' h' FG' F' N' B' X' T'; (try dsimp only); (try k_lift B'); (try k_fold))
  k_steps
  repeat' (refine Later.mk ?_; (first | (k_here; (with_reducible show wpAny _ _ (call (Value.ref 104) [Value.int 1980 _, Value.int 1 _, Value.int 1 _]) _ _ _); k_dflt (refine' cDate0 ?z9B ?z9F ?z9X ?z9N ?z9T ?z9d ?_; (case z9B => k_asm); (case z9F => k_asm); (case z9X => k_asm); (case z9N => k_asm); (case z9T => k_asm); (case z9d => k_room); k_whole); intro x' d' k1' k2' k3' k4' k5' k6' t4' t5' t6' h' tk' F' N' l1 l2; (try k_lt l1); (try k_lt2 l2); (try k_sweep); (try dsimp only)) | (k_here; (with_reducible show wpAny _ _ (call (Value.ref 104) [Value.int _ _, Value.int _ _, Value.int _ _, Value.int _ _, Value.int _ _, Value.int _ _]) _ _ _); k_dflt (refine' cDate6 ?z9B ?z9F ?z9X ?z9N ?z9T ?z9d (fun hda' hok' x' d' k1' k2' k3' k4' k5' k6' h' tk' F' N' l1 l2 => ?_) (fun hnt' g' e' t' vs' h' tk' F' R' U' => ?_); (case z9B => k_asm); (case z9F => k_asm); (case z9X => k_asm); (case z9N => k_asm); (case z9T => k_asm); (case z9d => k_room); (all_goals k_whole)); (all_goals ((try k_lt l1); (try k_lt2 l2); (try k_sweep); (try (exact absurd ⟨by first | exact okDY _ | assumption, by first | exact okTH _ | exact okT0 | assumption⟩ hnt')); (try dsimp only)))) | (k_here; (with_reducible show wpAny _ _ (call (Value.ref 104) [Value.int _ _, Value.int _ _, Value.int _ _]) _ _ _); k_dflt (refine' cDate3 ?z9B ?z9F ?z9X ?z9N ?z9T ?z9d (fun hda' hok' x' d' k1' k2' k3' k4' k5' k6' h' tk' F' N' l1 l2 => ?_) (fun hnt' g' e' t' vs' h' tk' F' R' U' => ?_); (case z9B => k_asm); (case z9F => k_asm); (case z9X => k_asm); (case z9N => k_asm); (case z9T => k_asm); (case z9d => k_room); (all_goals k_whole)); (all_goals ((try k_lt l1); (try k_lt2 l2); (try k_sweep); (try (exact absurd ⟨by first | exact okDY _ | assumption, by first | exact okTH _ | exact okT0 | assumption⟩ hnt')); (try dsimp only))))); k_steps)
  all_goals first
    | (exfalso; exact absurd (And.intro hv hv') (by assumption))
    | ((with_reducible rename News _ _ _ (_ :: _) => kN9); exact ok _ _ _ ⟨_, _, _, _, _, _, _, _, _, _, _, _, rfl⟩ _ _ (by assumption) (News.app (a := [_, _]) (News.drop9 kN9 (subC (by k_mem) (subC (by k_mem) subNil))) (News.whole N (sub4 hx hd hz hdz) (News.drop9 kN9 (sub4 (by k_mem) (by k_mem) (by k_mem) (by k_mem))) (by assumption))))
set_option maxRecDepth 100000 in
set_option maxHeartbeats 8000000 in
theorem eDate {w : World} {mean : ExcName → Option Value} {mg mb : Str → Option Value} {dp un : Nat} {gd : Option (List Code)} {cn : Str} {nm : List (Str × NameKind)} {ig ic : Bool} {mo : List (Str × Const)} {a : Addr} {ccd : Value} {cl : List (Str × Addr)} {outer : List Env} {A₀ : Around} {base h₀ : Heap} {L : Addr} {m : Str → Option Value} {news : List (Addr × Obj)} {s : Shared} {Q E : Value → Shared → Prop}
  (B : Below A₀ base outer h₀) (F : Fr h₀ L s.heap m) (X : (Mine.hd.heap_39 w.params).In h₀) (N : News h₀ L s.heap news) (T : Top topProg LOOSE mean mg mb h₀) (hdp : dp + 12 < recursionLimit) (XB : (Mine.hd.heap_39 w.params).In base) (TB : Top topProg LOOSE mean mg mb base) (D : KtsDicts (outer.filterMap (·.frame)) h₀)
  {v : Int} {t0 : Tok} (hv0 : 0 ≤ v) (hv1 : v < 65536)
  (ok : ∀ x' d' o, IsDate w o (dY v) (dM v) (dD v) 0 0 0 → ∀ h₁ h' tk', KtsTurn (outer.filterMap (·.frame)) h₀ h₁ → Fr h₁ L h' m → Below A₀ base outer h₁ → (Mine.hd.heap_39 w.params).In h₁ → Top topProg LOOSE mean mg mb h₁ → KtsDicts (outer.filterMap (·.frame)) h₁ → News h₁ L h' ((x', instObj 104 d') :: (d', o) :: news) → Q (.ref x') { s with heap := h', toks := tk' })
  : wpAny (model PySem.Challenge.rw_jr0027_01.row.prog w) (aT none dp un gd cn ⟨.function, nm, ig, ic, mo⟩ L a ccd cl outer) (call (.ref 88) [.int v t0]) Q E s := by
  refine cDeserDate B F X N T hdp XB TB D hv0 hv1 (fun Y' M' D' x' d' k1 k2 k3 k4 k5 k6 t1 t2 t3 t4 t5 t6 eY eM eD g h' tk' T9 F' B' X' T' D9 N' l1 l2 => ?_)
  subst eY eM eD
  exact ok _ _ _ ⟨_, _, _, _, _, _, _, _, _, _, _, _, rfl⟩ _ _ _ T9 F' B' X' T' D9 N'
set_option maxRecDepth 100000 in
set_option maxHeartbeats 8000000 in
theorem eTime {w : World} {mean : ExcName → Option Value} {mg mb : Str → Option Value} {dp un : Nat} {gd : Option (List Code)} {cn : Str} {nm : List (Str × NameKind)} {ig ic : Bool} {mo : List (Str × Const)} {a : Addr} {ccd : Value} {cl : List (Str × Addr)} {outer : List Env} {A₀ : Around} {base h₀ : Heap} {L : Addr} {m : Str → Option Value} {news : List (Addr × Obj)} {s : Shared} {Q E : Value → Shared → Prop}
  (B : Below A₀ base outer h₀) (F : Fr h₀ L s.heap m) (X : (Mine.hd.heap_39 w.params).In h₀) (N : News h₀ L s.heap news) (T : Top topProg LOOSE mean mg mb h₀) (hdp : dp + 12 < recursionLimit) (XB : (Mine.hd.heap_39 w.params).In base) (TB : Top topProg LOOSE mean mg mb base) (D : KtsDicts (outer.filterMap (·.frame)) h₀)
  {v : Int} {t0 : Tok} (hv0 : 0 ≤ v) (hv1 : v < 65536)
  (ok : ∀ x' d' o, IsTime w o (tH v) (tM v) (tS v) → ∀ h₁ h' tk', KtsTurn (outer.filterMap (·.frame)) h₀ h₁ → Fr h₁ L h' m → Below A₀ base outer h₁ → (Mine.hd.heap_39 w.params).In h₁ → Top topProg LOOSE mean mg mb h₁ → KtsDicts (outer.filterMap (·.frame)) h₁ → News h₁ L h' ((x', instObj 38 d') :: (d', o) :: news) → Q (.ref x') { s with heap := h', toks := tk' })
  : wpAny (model PySem.Challenge.rw_jr0027_01.row.prog w) (aT none dp un gd cn ⟨.function, nm, ig, ic, mo⟩ L a ccd cl outer) (call (.ref 98) [.int v t0]) Q E s := by
  refine cDeserTime B F X N T hdp XB TB D hv0 hv1 (fun Y' M' D' x' d' k1 k2 k3 t1 t2 t3 eY eM eD g h' tk' T9 F' B' X' T' D9 N' l1 l2 => ?_)
  subst eY eM eD
  exact ok _ _ _ ⟨_, _, _, _, _, _, rfl⟩ _ _ _ T9 F' B' X' T' D9 N'
set_option maxRecDepth 100000 in
set_option maxHeartbeats 8000000 in
theorem eDate6 {w : World} {mean : ExcName → Option Value} {mg mb : Str → Option Value} {dp un : Nat} {gd : Option (List Code)} {cn : Str} {nm : List (Str × NameKind)} {ig ic : Bool} {mo : List (Str × Const)} {a : Addr} {ccd : Value} {cl : List (Str × Addr)} {outer : List Env} {A₀ : Around} {base h₀ : Heap} {L : Addr} {m : Str → Option Value} {news : List (Addr × Obj)} {s : Shared} {Q E : Value → Shared → Prop}
  (B : Below A₀ base outer h₀) (F : Fr h₀ L s.heap m) (X : (Mine.hd.heap_39 w.params).In h₀) (N : News h₀ L s.heap news) (T : Top topProg LOOSE mean mg mb h₀) (hdp : dp + 8 < recursionLimit)
  {y mo' d h mi sec : Int} {t1 t2 t3 t4 t5 t6 : Tok} (hv : okDay y mo' d) (hv' : okTime h mi sec)
  (ok : ∀ x' d' o, IsDate w o y mo' d h mi sec → ∀ h' tk', Fr h₀ L h' m → News h₀ L h' ((x', instObj 104 d') :: (d', o) :: news) → Q (.ref x') { s with heap := h', toks := tk' })
  : wpAny (model PySem.Challenge.rw_jr0027_01.row.prog w) (aT none dp un gd cn ⟨.function, nm, ig, ic, mo⟩ L a ccd cl outer) (call (.ref 104) [.int y t1, .int mo' t2, .int d t3, .int h t4, .int mi t5, .int sec t6]) Q E s := by
  refine cDate6 B F X N T hdp (fun _ _ x dx k1 k2 k3 k4 k5 k6 h' tk' F' N' l1 l2 => ok _ _ _ ⟨_, _, _, _, _, _, _, _, _, _, _, _, rfl⟩ _ _ F' N') (fun hnt => absurd ⟨hv, hv'⟩ hnt)
theorem gSerD {w : World} {A : Around} {E : Value → Shared → Prop} {s : Shared} {h₀ : Heap} {L : Addr} {m : Str → Option Value} {news : List (Addr × Obj)} {x dx : Addr} {o : Obj} {y mo d h mi sec : Int} {pl : Sem Bool} {Q : Value × List Value → Shared → Prop}
    (F : Fr h₀ L s.heap m) (X : (Mine.hd.heap_39 w.params).In h₀) (N : News h₀ L s.heap news) (hx : (x, instObj 104 dx) ∈ news) (hd : (dx, o) ∈ news) (ho : IsDate w o y mo d h mi sec) (k : Q (.ref 74, [.ref x]) s) :
    wpAny (model PySem.Challenge.rw_jr0027_01.row.prog w) A (getMethod (.ref x) (Str.ofString "serialize_date") pl) Q E s := by
  obtain ⟨k1, k2, k3, k4, k5, k6, t1, t2, t3, t4, t5, t6, rfl⟩ := ho
  exact method_inst F X (InstAt.of_news N hx hd) (by k_is) (by k_is) (by k_is) (by k_get) k
theorem gSerT {w : World} {A : Around} {E : Value → Shared → Prop} {s : Shared} {h₀ : Heap} {L : Addr} {m : Str → Option Value} {news : List (Addr × Obj)} {x dx : Addr} {o : Obj} {y mo d h mi sec : Int} {pl : Sem Bool} {Q : Value × List Value → Shared → Prop}
    (F : Fr h₀ L s.heap m) (X : (Mine.hd.heap_39 w.params).In h₀) (N : News h₀ L s.heap news) (hx : (x, instObj 104 dx) ∈ news) (hd : (dx, o) ∈ news) (ho : IsDate w o y mo d h mi sec) (k : Q (.ref 81, [.ref x]) s) :
    wpAny (model PySem.Challenge.rw_jr0027_01.row.prog w) A (getMethod (.ref x) (Str.ofString "serialize_time") pl) Q E s := by
  obtain ⟨k1, k2, k3, k4, k5, k6, t1, t2, t3, t4, t5, t6, rfl⟩ := ho
  exact method_inst F X (InstAt.of_news N hx hd) (by k_is) (by k_is) (by k_is) (by k_get) k
end
local macro_rules | `(tactic| walk_at "getMethod ref") => `(tactic| (refine Mine.stopH (by assumption) ?_))
local macro_rules | `(tactic| ke_room) => `(tactic| ((try simp only [units_in1, units_deeper, Around.mark_units, units_caller]); (try dsimp only [aT]); first | exact room2 (by assumption) (by rfl) | exact room1 (by assumption) (by rfl) | ((have hcL9 := cLine_is); omega)))
section
set_option maxRecDepth 100000 in
set_option maxHeartbeats 8000000 in
theorem cLawWord {w : World} {mean : ExcName → Option Value} {mg mb : Str → Option Value} {dp un : Nat} {gd : Option (List Code)} {cn : Str} {nm : List (Str × NameKind)} {ig ic : Bool} {mo : List (Str × Const)} {a : Addr} {ccd : Value} {cl : List (Str × Addr)} {outer : List Env} {A₀ : Around} {base h₀ : Heap} {L : Addr} {m : Str → Option Value} {news : List (Addr × Obj)} {s : Shared} {Q E : Value → Shared → Prop}
  (B : Below A₀ base outer h₀) (F : Fr h₀ L s.heap m) (X : (Mine.hd.heap_39 w.params).In h₀) (N : News h₀ L s.heap news) (T : Top topProg LOOSE mean mg mb h₀) (hdp : dp + 30 < recursionLimit) (hun : un + 200 < cLine) (XB : (Mine.hd.heap_39 w.params).In base) (TB : Top topProg LOOSE mean mg mb base) (D : KtsDicts (outer.filterMap (·.frame)) h₀)
  {v o : Int} {t0 t9 : Tok} (hv0 : 0 ≤ v) (hv1 : v < 65536) (ho0 : 0 ≤ o) (ho1 : o < 65536)
  (ok : ∀ h₁ h' tk', KtsTurn (outer.filterMap (·.frame)) h₀ h₁ → Fr h₁ L h' m → Below A₀ base outer h₁ → (Mine.hd.heap_39 w.params).In h₁ → Top topProg LOOSE mean mg mb h₁ → KtsDicts (outer.filterMap (·.frame)) h₁ → News h₁ L h' news → Q (.bool true) { s with heap := h', toks := tk' })
  : wpAny (model PySem.Challenge.rw_jr0027_01.row.prog w) (aT none dp un gd cn ⟨.function, nm, ig, ic, mo⟩ L a ccd cl outer) (call (.ref 737) [.int v t0, .int o t9]) Q E s := by
  have mkS : StopAt [64, 74, 81, 88, 98, 702, 709, 716] := ⟨⟩
  have mkM : CutH := ⟨⟩
  have b1 := bndD hv0 hv1
  have b2 := bndT o
  have m1 : 0 ≤ dM v ∧ dM v ≤ 15 := ⟨Int.le_trans (by decide) b1.2.2.1, Int.le_trans b1.2.2.2.1 (by decide)⟩
  have d1 : 0 ≤ dD v ∧ dD v ≤ 31 := ⟨Int.le_trans (by decide) b1.2.2.2.2.1, b1.2.2.2.2.2⟩
  have y1 : 1980 ≤ dY v ∧ dY v ≤ 9999 := ⟨b1.1, Int.le_trans b1.2.1 (by decide)⟩
  have h2 : 0 ≤ tH o ∧ tH o ≤ 23 := ⟨b2.1, b2.2.1⟩
  have i2 : 0 ≤ tM o ∧ tM o ≤ 63 := ⟨b2.2.2.1, Int.le_trans b2.2.2.2.1 (by decide)⟩
  have j2 : 0 ≤ tS o ∧ tS o ≤ 59 := b2.2.2.2.2
  have s3 : (tH 0 == 0 && (tM 0 == 0 && tS 0 == 0)) = true := by simp [tH, tM, tS]
  refine wpAny_call ?_
  (refine' code_defSE (binds := [((Str.ofString "word"), .int v t0), ((Str.ofString "other"), .int o t9)]) ?k1 ?k2 ?k3 News.nil9 ?k4 offNil ?k5 ?XB ?TB ?D ?T0 ?kA ?k6 ?k7 ?k8 ?k9 ?kB ?_ ?cK ?c2 ?c3 ?c4 ?c5; (case kA => exact rfl); (case k2 => k_asm); (case k1 => k_asm); (case XB => assumption); (case TB => assumption); (case D => assumption); (case T0 => exact KtsTurn.refl); (case k3 => k_asm); (case k4 => k_asm); (case k5 => k_asm); (case k6 => k_is); (case k7 => k_is); (case k8 => k_room); (case k9 => first | exact BindsTo.of_eq rfl | exact binds_K (by k_in) rfl (by k_is) rfl rfl rfl | fail "enterSE: no rule for these arguments"); (case kB => exact locs rfl); (case cK => exact rfl); (case c2 => exact rfl); (case c3 => exact rfl); (case c4 => exact rfl); (case c5 => decide); k_whole; intro g' L' h' FG' F' N' B' X' T' D'; (try dsimp only); (try k_lift B'); (try k_fold))
  k_steps
  repeat' (refine Later.mk ?_; (first | ((with_reducible show wpAny _ _ (getMethod _ (PySem.Str.ofString "serialize_date") _) _ _ _); k_dflt (refine gSerD (by k_asm) (by k_asm) (by k_asm) (by k_mem) (by k_mem) (by assumption) ?_); (try dsimp only)) | ((with_reducible show wpAny _ _ (getMethod _ (PySem.Str.ofString "serialize_time") _) _ _ _); k_dflt (refine gSerT (by k_asm) (by k_asm) (by k_asm) (by k_mem) (by k_mem) (by assumption) ?_); (try dsimp only)) | (k_dflt (refine method_inst (by k_asm) (by k_asm) (by k_inst) (by k_is) (by k_is) (by k_is) (by k_get) ?_); (try dsimp only)) | (k_dflt (refine method_of_cls (by k_asm) (by k_asm) (by k_is) ?_); (try dsimp only)) | (k_here; (with_reducible show wpAny _ _ (call (Value.ref 709) _) _ _ _); k_dflt (refine cLawTime (by k_asm) (by k_asm) (by k_asm) (by k_asm) (by k_asm) (by k_room) (by l_fact) (by l_fact) (fun Y' M' D' l' t1' t2' t3' eY eM eD h' tk' F' N' l1 => ?_)); subst eY eM eD; (try k_sweep); (try dsimp only)) | (k_here; (with_reducible show wpAny _ _ (call (Value.ref 702) _) _ _ _); k_dflt (refine cLawDate (by k_asm) (by k_asm) (by k_asm) (by k_asm) (by k_asm) (by k_room) (by l_fact) (by l_fact) (fun Y' M' D' l' t1' t2' t3' eY eM eD h' tk' F' N' l1 => ?_)); subst eY eM eD; (try k_sweep); (try dsimp only)) | (k_here; (with_reducible show wpAny _ _ (call (Value.ref 98) _) _ _ _); k_dflt (refine cDeserTime (by k_asm) (by k_asm) (by k_asm) (by k_asm) (by k_asm) (by k_room) (by assumption) (by assumption) (by assumption) (by l_fact) (by l_fact) (fun Y' M' D' x' d' k1' k2' k3' t1' t2' t3' eY eM eD g' h' tk' T9 F' B' X' T' D9 N' l1 l2 => ?_)); subst eY eM eD; (try (replace T9 := KtsTurn.trans (by assumption) T9)); (try k_lift B'); (try k_sweep); (try dsimp only)) | (k_here; (with_reducible show wpAny _ _ (call (Value.ref 88) _) _ _ _); k_dflt (refine eDate (by k_asm) (by k_asm) (by k_asm) (by k_asm) (by k_asm) (by k_room) (by assumption) (by assumption) (by assumption) (by l_fact) (by l_fact) (fun x' d' o' ho' g' h' tk' T9 F' B' X' T' D9 N' => ?_)); (try (replace T9 := KtsTurn.trans (by assumption) T9)); (try k_lift B'); (try k_sweep); (try dsimp only)) | (k_here; (with_reducible show wpAny _ _ (call (Value.ref 64) _) _ _ _); k_dflt (refine cComb (by k_asm) (by k_asm) (by k_asm) (by k_asm) (by k_asm) (by k_room) (by k_mem) (by k_mem) (by assumption) (by k_mem) (by k_mem) (by exact ⟨_, _, _, _, _, _, rfl⟩) (by first | exact okDY _ | assumption) (by first | exact okTH _ | assumption) (fun x' d' o' ho' h' tk' F' N' => ?_)); (try k_sweep); (try dsimp only)) | (k_here; (with_reducible show wpAny _ _ (call (Value.ref 81) _) _ _ _); k_dflt (refine cSerT (by k_asm) (by k_asm) (by k_asm) (by k_asm) (by k_asm) (by k_room) (by k_mem) (by k_mem) (by assumption) (by first | assumption | decide | omega) (by first | assumption | decide | omega) (by first | assumption | decide | omega) (fun t' h' tk' F' N' => ?_)); (try k_sweep); (try dsimp only)) | (k_here; (with_reducible show wpAny _ _ (call (Value.ref 74) _) _ _ _); k_dflt (refine cSerD (by k_asm) (by k_asm) (by k_asm) (by k_asm) (by k_asm) (by k_room) (by k_mem) (by k_mem) (by assumption) (by first | assumption | decide | omega) (by first | assumption | decide | omega) (by first | assumption | decide | omega) (fun t' h' tk' F' N' => ?_)); (try k_sweep); (try dsimp only)) | (k_here; (with_reducible show wpAny _ _ (call (Value.ref 716) _) _ _ _); k_dflt (refine cSix (by k_asm) (by k_asm) (by k_asm) (by k_asm) (by k_asm) (by k_room) (by k_mem) (by k_mem) (by assumption) (fun l' t1' t2' t3' t4' t5' t6' h' tk' F' N' l1 => ?_)); clear l1; (try k_sweep); (try dsimp only))); k_steps)
  all_goals first
    | (exfalso; contradiction)
    | (exfalso; exact absurd (s3.symm.trans (by assumption)) (by decide))
    | ((first | rw [beq_self_eq_true] | skip); refine' ok _ _ _ ?z9t ?z9f ?z9b ?z9i ?z9o ?z9k ?z9n; (case z9f => assumption); (case z9b => assumption); (case z9i => assumption); (case z9o => assumption); (case z9k => assumption); (case z9t => first | assumption | exact KtsTurn.refl); (case z9n => first | assumption | exact News.turn9 (by assumption) (by assumption)))
end
section
set_option maxRecDepth 100000 in
set_option maxHeartbeats 8000000 in
theorem c371 {w : World} {mean : ExcName → Option Value} {mg mb : Str → Option Value} {dp un : Nat} {gd : Option (List Code)} {cn : Str} {nm : List (Str × NameKind)} {ig ic : Bool} {mo : List (Str × Const)} {a : Addr} {ccd : Value} {cl : List (Str × Addr)} {outer : List Env} {A₀ : Around} {base h₀ : Heap} {L : Addr} {m : Str → Option Value} {news : List (Addr × Obj)} {s : Shared} {Q E : Value → Shared → Prop}
  (B : Below A₀ base outer h₀) (F : Fr h₀ L s.heap m) (X : (Mine.hd.heap_39 w.params).In h₀) (N : News h₀ L s.heap news) (T : Top topProg LOOSE mean mg mb h₀) (hdp : dp + 20 < recursionLimit) (hun : un + 100 < cLine) (XB : (Mine.hd.heap_39 w.params).In base) (TB : Top topProg LOOSE mean mg mb base) (D : KtsDicts (outer.filterMap (·.frame)) h₀)
  {cd ct : Int} {ta tb : Tok} (h1 : 0 ≤ cd) (h2 : cd < 65536) (h3 : 0 ≤ ct) (h4 : ct < 65536)
  (ok : ∀ x dx k1 k2 k3 k4 k5 k6 t1 t2 t3 t4 t5 t6 Y Mo Da Ho Mi Se, Y = dY cd → Mo = dM cd → Da = dD cd → Ho = tH ct → Mi = tM ct → Se = tS ct → ∀ h₁ h' tk', KtsTurn (outer.filterMap (·.frame)) h₀ h₁ → Fr h₁ L h' m → Below A₀ base outer h₁ → (Mine.hd.heap_39 w.params).In h₁ → Top topProg LOOSE mean mg mb h₁ → KtsDicts (outer.filterMap (·.frame)) h₁ → News h₁ L h' ((x, instObj 104 dx) :: (dx, dateD w k1 k2 k3 k4 k5 k6 (.int Y t1) (.int Mo t2) (.int Da t3) (.int Ho t4) (.int Mi t5) (.int Se t6)) :: news) → Q (.ref x) { s with heap := h', toks := tk' })
  : wpAny (model PySem.Challenge.rw_jr0027_01.row.prog w) (aT none dp un gd cn ⟨.function, nm, ig, ic, mo⟩ L a ccd cl outer) (call (.ref 371) [.int cd ta, .int ct tb]) Q E s := by
  have mkS : StopAt [38, 88, 98, 104, 371, 702, 709] := ⟨⟩
  refine wpAny_call ?_
  (refine' code_defSE (binds := [((Str.ofString "dt"), .int cd ta), ((Str.ofString "tm"), .int ct tb)]) ?k1 ?k2 ?k3 News.nil9 ?k4 offNil ?k5 ?XB ?TB ?D ?T0 ?kA ?k6 ?k7 ?k8 ?k9 ?kB ?_ ?cK ?c2 ?c3 ?c4 ?c5; (case kA => exact rfl); (case k2 => k_asm); (case k1 => k_asm); (case XB => assumption); (case TB => assumption); (case D => assumption); (case T0 => exact KtsTurn.refl); (case k3 => k_asm); (case k4 => k_asm); (case k5 => k_asm); (case k6 => k_is); (case k7 => k_is); (case k8 => k_room); (case k9 => first | exact BindsTo.of_eq rfl | exact binds_K (by k_in) rfl (by k_is) rfl rfl rfl | fail "enterSE: no rule for these arguments"); (case kB => exact locs rfl); (case cK => exact rfl); (case c2 => exact rfl); (case c3 => exact rfl); (case c4 => exact rfl); (case c5 => decide); k_whole; intro g' L' h' FG' F' N' B' X' T' D'; (try dsimp only); (try k_lift B'); (try k_fold))
  k_steps
  repeat' (refine Later.mk ?_; (first | (k_here; (with_reducible show wpAny _ _ (call (Value.ref 371) _) _ _ _); k_dflt (refine' c371 ?z9B ?z9F ?z9X ?z9N ?z9T ?z9d ?z9u ?z9XB ?z9TB ?z9D ?z9p ?z9q ?z9r ?z9s ?_; (case z9B => k_asm); (case z9F => k_asm); (case z9X => k_asm); (case z9N => k_asm); (case z9T => k_asm); (case z9d => k_room); (case z9u => ke_room); (case z9XB => assumption); (case z9TB => assumption); (case z9D => assumption); (case z9p => l_fact); (case z9q => l_fact); (case z9r => l_fact); (case z9s => l_fact); k_whole); intro x' d' k1' k2' k3' k4' k5' k6' t1' t2' t3' t4' t5' t6' Y' M' D' H' I' S' eY eM eD eH eI eS g' h' tk' T9 F' B' X' T' D9 N'; subst eY eM eD eH eI eS; (try (replace T9 := KtsTurn.trans (by assumption) T9)); (try k_lift B'); (try k_sweep); (try dsimp only)) | (k_here; (with_reducible show wpAny _ _ (call (Value.ref 98) [Value.int _ _]) _ _ _); k_dflt (refine' cDeserTime ?z9B ?z9F ?z9X ?z9N ?z9T ?z9d ?z9XB ?z9TB ?z9D ?z9p ?z9q ?_; (case z9B => k_asm); (case z9F => k_asm); (case z9X => k_asm); (case z9N => k_asm); (case z9T => k_asm); (case z9d => k_room); (case z9XB => assumption); (case z9TB => assumption); (case z9D => assumption); (case z9p => l_fact); (case z9q => l_fact); k_whole); intro Y' M' D' x' d' k1' k2' k3' t1' t2' t3' eY eM eD g' h' tk' T9 F' B' X' T' D9 N' l1 l2; subst eY eM eD; (try (replace T9 := KtsTurn.trans (by assumption) T9)); (try k_lt l1); (try k_lt2 l2); (try k_lift B'); (try k_sweep); (try dsimp only)) | (k_here; (with_reducible show wpAny _ _ (call (Value.ref 88) [Value.int _ _]) _ _ _); k_dflt (refine' cDeserDate ?z9B ?z9F ?z9X ?z9N ?z9T ?z9d ?z9XB ?z9TB ?z9D ?z9p ?z9q ?_; (case z9B => k_asm); (case z9F => k_asm); (case z9X => k_asm); (case z9N => k_asm); (case z9T => k_asm); (case z9d => k_room); (case z9XB => assumption); (case z9TB => assumption); (case z9D => assumption); (case z9p => l_fact); (case z9q => l_fact); k_whole); intro Y' M' D' x' d' k1' k2' k3' k4' k5' k6' t1' t2' t3' t4' t5' t6' eY eM eD g' h' tk' T9 F' B' X' T' D9 N' l1 l2; subst eY eM eD; (try (replace T9 := KtsTurn.trans (by assumption) T9)); (try k_lt l1); (try k_lt2 l2); (try k_lift B'); (try k_sweep); (try dsimp only)) | (k_here; (with_reducible show wpAny _ _ (call (Value.ref 709) [Value.int _ _]) _ _ _); k_dflt (refine' cLawTime ?z9B ?z9F ?z9X ?z9N ?z9T ?z9d ?z9p ?z9q ?_; (case z9B => k_asm); (case z9F => k_asm); (case z9X => k_asm); (case z9N => k_asm); (case z9T => k_asm); (case z9d => k_room); (case z9p => l_fact); (case z9q => l_fact); k_whole); intro Y' M' D' l' t1' t2' t3' eY eM eD h' tk' F' N' l1; subst eY eM eD; (try k_lt l1); (try k_sweep); (try dsimp only)) | (k_here; (with_reducible show wpAny _ _ (call (Value.ref 702) [Value.int _ _]) _ _ _); k_dflt (refine' cLawDate ?z9B ?z9F ?z9X ?z9N ?z9T ?z9d ?z9p ?z9q ?_; (case z9B => k_asm); (case z9F => k_asm); (case z9X => k_asm); (case z9N => k_asm); (case z9T => k_asm); (case z9d => k_room); (case z9p => l_fact); (case z9q => l_fact); k_whole); intro Y' M' D' l' t1' t2' t3' eY eM eD h' tk' F' N' l1; subst eY eM eD; (try k_lt l1); (try k_sweep); (try dsimp only)) | (k_here; (with_reducible show wpAny _ _ (call (Value.ref 104) [Value.int 1980 _, Value.int 1 _, Value.int 1 _]) _ _ _); k_dflt (refine' cDate0 ?z9B ?z9F ?z9X ?z9N ?z9T ?z9d ?_; (case z9B => k_asm); (case z9F => k_asm); (case z9X => k_asm); (case z9N => k_asm); (case z9T => k_asm); (case z9d => k_room); k_whole); intro x' d' k1' k2' k3' k4' k5' k6' t4' t5' t6' h' tk' F' N' l1 l2; (try k_lt l1); (try k_lt2 l2); (try k_sweep); (try dsimp only)) | (k_here; (with_reducible show wpAny _ _ (call (Value.ref 104) [Value.int _ _, Value.int _ _, Value.int _ _, Value.int _ _, Value.int _ _, Value.int _ _]) _ _ _); k_dflt (refine' cDate6 ?z9B ?z9F ?z9X ?z9N ?z9T ?z9d (fun hda' hok' x' d' k1' k2' k3' k4' k5' k6' h' tk' F' N' l1 l2 => ?_) (fun hnt' g' e' t' vs' h' tk' F' R' U' => ?_); (case z9B => k_asm); (case z9F => k_asm); (case z9X => k_asm); (case z9N => k_asm); (case z9T => k_asm); (case z9d => k_room); (all_goals k_whole)); (all_goals ((try k_lt l1); (try k_lt2 l2); (try k_sweep); (try (exact absurd ⟨by first | exact okDY _ | assumption, by first | exact okTH _ | exact okT0 | assumption⟩ hnt')); (try dsimp only)))) | (k_here; (with_reducible show wpAny _ _ (call (Value.ref 104) [Value.int _ _, Value.int _ _, Value.int _ _]) _ _ _); k_dflt (refine' cDate3 ?z9B ?z9F ?z9X ?z9N ?z9T ?z9d (fun hda' hok' x' d' k1' k2' k3' k4' k5' k6' h' tk' F' N' l1 l2 => ?_) (fun hnt' g' e' t' vs' h' tk' F' R' U' => ?_); (case z9B => k_asm); (case z9F => k_asm); (case z9X => k_asm); (case z9N => k_asm); (case z9T => k_asm); (case z9d => k_room); (all_goals k_whole)); (all_goals ((try k_lt l1); (try k_lt2 l2); (try k_sweep); (try (exact absurd ⟨by first | exact okDY _ | assumption, by first | exact okTH _ | exact okT0 | assumption⟩ hnt')); (try dsimp only)))) | (k_here; (with_reducible show wpAny _ _ (call (Value.ref 38) [Value.int 0 _, Value.int 0 _, Value.int 0 _]) _ _ _); k_dflt (refine' cDosTime0 ?z9B ?z9F ?z9X ?z9N ?z9T ?z9d ?_; (case z9B => k_asm); (case z9F => k_asm); (case z9X => k_asm); (case z9N => k_asm); (case z9T => k_asm); (case z9d => k_room); k_whole); intro x' d' k1' k2' k3' h' tk' F' N' l1 l2; (try k_lt l1); (try k_lt2 l2); (try k_sweep); (try dsimp only)) | (k_here; (with_reducible show wpAny _ _ (call (Value.ref 38) _) _ _ _); k_dflt (refine' cDosTime ?z9B ?z9F ?z9X ?z9N ?z9T ?z9d (fun hok' x' d' k1' k2' k3' h' tk' F' N' l1 l2 => ?_) (fun hnt' g' e' t' vs' h' tk' F' R' U' => ?_); (case z9B => k_asm); (case z9F => k_asm); (case z9X => k_asm); (case z9N => k_asm); (case z9T => k_asm); (case z9d => k_room); (all_goals k_whole)); (all_goals ((try k_lt l1); (try k_lt2 l2); (try k_sweep); (try dsimp only))))); k_steps)
  (with_reducible rename News _ _ _ (_ :: _) => kN9)
  refine' ok _ _ _ _ _ _ _ _ _ _ _ _ _ _ _ _ _ _ _ _ rfl rfl rfl rfl rfl rfl _ _ _ ?z9t ?z9f ?z9b ?z9i ?z9o ?z9k (News.app (News.drop9 ?z9n (subC ?z9a (subC ?z9c subNil))) ?z9r); (case z9n => exact kN9); (case z9a => k_mem); (case z9c => k_mem); (case z9f => assumption); (case z9b => assumption); (case z9i => assumption); (case z9o => assumption); (case z9k => assumption); (case z9t => first | assumption | exact KtsTurn.refl); (case z9r => exact News.turn9 (by assumption) (by assumption))
set_option maxRecDepth 100000 in
set_option maxHeartbeats 8000000 in
theorem cCtime {w : World} {mean : ExcName → Option Value} {mg mb : Str → Option Value} {dp un : Nat} {gd : Option (List Code)} {cn : Str} {nm : List (Str × NameKind)} {ig ic : Bool} {mo : List (Str × Const)} {a : Addr} {ccd : Value} {cl : List (Str × Addr)} {outer : List Env} {A₀ : Around} {base h₀ : Heap} {L : Addr} {m : Str → Option Value} {news : List (Addr × Obj)} {s : Shared} {Q E : Value → Shared → Prop}
  (B : Below A₀ base outer h₀) (F : Fr h₀ L s.heap m) (X : (Mine.hd.heap_39 w.params).In h₀) (N : News h₀ L s.heap news) (T : Top topProg LOOSE mean mg mb h₀) (hdp : dp + 30 < recursionLimit) (hun : un + 150 < cLine) (XB : (Mine.hd.heap_39 w.params).In base) (TB : Top topProg LOOSE mean mg mb base) (D : KtsDicts (outer.filterMap (·.frame)) h₀)
  {x dx ld : Addr} {v ve : Value} {ct cd ad wt wd : Int} {k1 k2 k3 k4 k5 k6 k7 k8 k9 k10 k11 k12 k13 k14 k15 k16 k17 k18 t1 t2 t3 t4 t5 t6 t7 t8 t9 t10 t11 : Tok} (hx : (x, instObj 595 dx) ∈ news) (hd : (dx, fatD w k1 k2 k3 k4 k5 k6 k7 k8 k9 k10 k11 k12 k13 k14 k15 k16 k17 k18 (v) (.int 0 t1) (.int 0 t2) (.int 0 t3) (.int ct t4) (.int cd t5) (.int ad t6) (.int 0 t7) (.int wt t8) (.int wd t9) (.int 0 t10) (.int 0 t11) (.bool false) (.none) (.none) (.none) (.ref ld) (ve)) ∈ news) (h1 : 0 ≤ cd) (h2 : cd < 65536) (h3 : 0 ≤ ct) (h4 : ct < 65536)
  (ok : ∀ x dx k1 k2 k3 k4 k5 k6 t1 t2 t3 t4 t5 t6 Y Mo Da Ho Mi Se, Y = dY cd → Mo = dM cd → Da = dD cd → Ho = tH ct → Mi = tM ct → Se = tS ct → ∀ h₁ h' tk', KtsTurn (outer.filterMap (·.frame)) h₀ h₁ → Fr h₁ L h' m → Below A₀ base outer h₁ → (Mine.hd.heap_39 w.params).In h₁ → Top topProg LOOSE mean mg mb h₁ → KtsDicts (outer.filterMap (·.frame)) h₁ → News h₁ L h' ((x, instObj 104 dx) :: (dx, dateD w k1 k2 k3 k4 k5 k6 (.int Y t1) (.int Mo t2) (.int Da t3) (.int Ho t4) (.int Mi t5) (.int Se t6)) :: news) → Q (.ref x) { s with heap := h', toks := tk' })
  : wpAny (model PySem.Challenge.rw_jr0027_01.row.prog w) (aT none dp un gd cn ⟨.function, nm, ig, ic, mo⟩ L a ccd cl outer) (call (.ref 350) [.ref x]) Q E s := by
  have mkS : StopAt [38, 88, 98, 104, 371, 702, 709] := ⟨⟩
  refine wpAny_call ?_
  (refine' code_defSE (binds := [((Str.ofString "self"), .ref x)]) ?k1 ?k2 ?k3 (fun p hp => N p (sub2 hx hd p hp)) (News.rest N) off_rest ?k5 ?XB ?TB ?D ?T0 ?kA ?k6 ?k7 ?k8 ?k9 ?kB ?_ ?cK ?c2 ?c3 ?c4 ?c5; (case kA => exact rfl); (case k2 => k_asm); (case k1 => k_asm); (case XB => assumption); (case TB => assumption); (case D => assumption); (case T0 => exact KtsTurn.refl); (case k3 => k_asm); (case k5 => k_asm); (case k6 => k_is); (case k7 => k_is); (case k8 => k_room); (case k9 => first | exact BindsTo.of_eq rfl | exact binds_K (by k_in) rfl (by k_is) rfl rfl rfl | fail "enterSE: no rule for these arguments"); (case kB => exact locs rfl); (case cK => exact rfl); (case c2 => exact rfl); (case c3 => exact rfl); (case c4 => exact rfl); (case c5 => decide); k_whole; intro g' L' h' FG' F' N' B' X' T' D'; (try dsimp only); (try k_lift B'); (try k_fold))
  k_steps
  repeat' (refine Later.mk ?_; (first | (k_here; (with_reducible show wpAny _ _ (call (Value.ref 371) _) _ _ _); k_dflt (refine' c371 ?z9B ?z9F ?z9X ?z9N ?z9T ?z9d ?z9u ?z9XB ?z9TB ?z9D ?z9p ?z9q ?z9r ?z9s ?_; (case z9B => k_asm); (case z9F => k_asm); (case z9X => k_asm); (case z9N => k_asm); (case z9T => k_asm); (case z9d => k_room); (case z9u => ke_room); (case z9XB => assumption); (case z9TB => assumption); (case z9D => assumption); (case z9p => l_fact); (case z9q => l_fact); (case z9r => l_fact); (case z9s => l_fact); k_whole); intro x' d' k1' k2' k3' k4' k5' k6' t1' t2' t3' t4' t5' t6' Y' M' D' H' I' S' eY eM eD eH eI eS g' h' tk' T9 F' B' X' T' D9 N'; subst eY eM eD eH eI eS; (try (replace T9 := KtsTurn.trans (by assumption) T9)); (try k_lift B'); (try k_sweep); (try dsimp only)) | (k_here; (with_reducible show wpAny _ _ (call (Value.ref 98) [Value.int _ _]) _ _ _); k_dflt (refine' cDeserTime ?z9B ?z9F ?z9X ?z9N ?z9T ?z9d ?z9XB ?z9TB ?z9D ?z9p ?z9q ?_; (case z9B => k_asm); (case z9F => k_asm); (case z9X => k_asm); (case z9N => k_asm); (case z9T => k_asm); (case z9d => k_room); (case z9XB => assumption); (case z9TB => assumption); (case z9D => assumption); (case z9p => l_fact); (case z9q => l_fact); k_whole); intro Y' M' D' x' d' k1' k2' k3' t1' t2' t3' eY eM eD g' h' tk' T9 F' B' X' T' D9 N' l1 l2; subst eY eM eD; (try (replace T9 := KtsTurn.trans (by assumption) T9)); (try k_lt l1); (try k_lt2 l2); (try k_lift B'); (try k_sweep); (try dsimp only)) | (k_here; (with_reducible show wpAny _ _ (call (Value.ref 88) [Value.int _ _]) _ _ _); k_dflt (refine' cDeserDate ?z9B ?z9F ?z9X ?z9N ?z9T ?z9d ?z9XB ?z9TB ?z9D ?z9p ?z9q ?_; (case z9B => k_asm); (case z9F => k_asm); (case z9X => k_asm); (case z9N => k_asm); (case z9T => k_asm); (case z9d => k_room); (case z9XB => assumption); (case z9TB => assumption); (case z9D => assumption); (case z9p => l_fact); (case z9q => l_fact); k_whole); intro Y' M' D' x' d' k1' k2' k3' k4' k5' k6' t1' t2' t3' t4' t5' t6' eY eM eD g' h' tk' T9 F' B' X' T' D9 N' l1 l2; subst eY eM eD; (try (replace T9 := KtsTurn.trans (by assumption) T9)); (try k_lt l1); (try k_lt2 l2); (try k_lift B'); (try k_sweep); (try dsimp only)) | (k_here; (with_reducible show wpAny _ _ (call (Value.ref 709) [Value.int _ _]) _ _ _); k_dflt (refine' cLawTime ?z9B ?z9F ?z9X ?z9N ?z9T ?z9d ?z9p ?z9q ?_; (case z9B => k_asm); (case z9F => k_asm); (case z9X => k_asm); (case z9N => k_asm); (case z9T => k_asm); (case z9d => k_room); (case z9p => l_fact); (case z9q => l_fact); k_whole); intro Y' M' D' l' t1' t2' t3' eY eM eD h' tk' F' N' l1; subst eY eM eD; (try k_lt l1); (try k_sweep); (try dsimp only)) | (k_here; (with_reducible show wpAny _ _ (call (Value.ref 702) [Value.int _ _]) _ _ _); k_dflt (refine' cLawDate ?z9B ?z9F ?z9X ?z9N ?z9T ?z9d ?z9p ?z9q ?_; (case z9B => k_asm); (case z9F => k_asm); (case z9X => k_asm); (case z9N => k_asm); (case z9T => k_asm); (case z9d => k_room); (case z9p => l_fact); (case z9q => l_fact); k_whole); intro Y' M' D' l' t1' t2' t3' eY eM eD h' tk' F' N' l1; subst eY eM eD; (try k_lt l1); (try k_sweep); (try dsimp only)) | (k_here; (with_reducible show wpAny _ _ (call (Value.ref 104) [Value.int 1980 _, Value.int 1 _, Value.int 1 _]) _ _ _); k_dflt (refine' cDate0 ?z9B ?z9F ?z9X ?z9N ?z9T ?z9d ?_; (case z9B => k_asm); (case z9F => k_asm); (case z9X => k_asm); (case z9N => k_asm); (case z9T => k_asm); (case z9d => k_room); k_whole); intro x' d' k1' k2' k3' k4' k5' k6' t4' t5' t6' h' tk' F' N' l1 l2; (try k_lt l1); (try k_lt2 l2); (try k_sweep); (try dsimp only)) | (k_here; (with_reducible show wpAny _ _ (call (Value.ref 104) [Value.int _ _, Value.int _ _, Value.int _ _, Value.int _ _, Value.int _ _, Value.int _ _]) _ _ _); k_dflt (refine' cDate6 ?z9B ?z9F ?z9X ?z9N ?z9T ?z9d (fun hda' hok' x' d' k1' k2' k3' k4' k5' k6' h' tk' F' N' l1 l2 => ?_) (fun hnt' g' e' t' vs' h' tk' F' R' U' => ?_); (case z9B => k_asm); (case z9F => k_asm); (case z9X => k_asm); (case z9N => k_asm); (case z9T => k_asm); (case z9d => k_room); (all_goals k_whole)); (all_goals ((try k_lt l1); (try k_lt2 l2); (try k_sweep); (try (exact absurd ⟨by first | exact okDY _ | assumption, by first | exact okTH _ | exact okT0 | assumption⟩ hnt')); (try dsimp only)))) | (k_here; (with_reducible show wpAny _ _ (call (Value.ref 104) [Value.int _ _, Value.int _ _, Value.int _ _]) _ _ _); k_dflt (refine' cDate3 ?z9B ?z9F ?z9X ?z9N ?z9T ?z9d (fun hda' hok' x' d' k1' k2' k3' k4' k5' k6' h' tk' F' N' l1 l2 => ?_) (fun hnt' g' e' t' vs' h' tk' F' R' U' => ?_); (case z9B => k_asm); (case z9F => k_asm); (case z9X => k_asm); (case z9N => k_asm); (case z9T => k_asm); (case z9d => k_room); (all_goals k_whole)); (all_goals ((try k_lt l1); (try k_lt2 l2); (try k_sweep); (try (exact absurd ⟨by first | exact okDY _ | assumption, by first | exact okTH _ | exact okT0 | assumption⟩ hnt')); (try dsimp only)))) | (k_here; (with_reducible show wpAny _ _ (call (Value.ref 38) [Value.int 0 _, Value.int 0 _, Value.int 0 _]) _ _ _); k_dflt (refine' cDosTime0 ?z9B ?z9F ?z9X ?z9N ?z9T ?z9d ?_; (case z9B => k_asm); (case z9F => k_asm); (case z9X => k_asm); (case z9N => k_asm); (case z9T => k_asm); (case z9d => k_room); k_whole); intro x' d' k1' k2' k3' h' tk' F' N' l1 l2; (try k_lt l1); (try k_lt2 l2); (try k_sweep); (try dsimp only)) | (k_here; (with_reducible show wpAny _ _ (call (Value.ref 38) _) _ _ _); k_dflt (refine' cDosTime ?z9B ?z9F ?z9X ?z9N ?z9T ?z9d (fun hok' x' d' k1' k2' k3' h' tk' F' N' l1 l2 => ?_) (fun hnt' g' e' t' vs' h' tk' F' R' U' => ?_); (case z9B => k_asm); (case z9F => k_asm); (case z9X => k_asm); (case z9N => k_asm); (case z9T => k_asm); (case z9d => k_room); (all_goals k_whole)); (all_goals ((try k_lt l1); (try k_lt2 l2); (try k_sweep); (try dsimp only))))); k_steps)
  (with_reducible rename News _ _ _ (_ :: _) => kN9)
  refine' ok _ _ _ _ _ _ _ _ _ _ _ _ _ _ _ _ _ _ _ _ rfl rfl rfl rfl rfl rfl _ _ _ ?z9t ?z9f ?z9b ?z9i ?z9o ?z9k (News.app (News.drop9 ?z9n (subC ?z9a (subC ?z9c subNil))) ?z9r); (case z9n => exact kN9); (case z9a => k_mem); (case z9c => k_mem); (case z9f => assumption); (case z9b => assumption); (case z9i => assumption); (case z9o => assumption); (case z9k => assumption); (case z9t => first | assumption | exact KtsTurn.refl); (case z9r => exact News.whole N (sub2 hx hd) (News.drop9 kN9 (sub2 (by k_mem) (by k_mem))) (News.turn9 (by assumption) (by assumption)))
set_option maxRecDepth 100000 in
set_option maxHeartbeats 8000000 in
theorem cMtime {w : World} {mean : ExcName → Option Value} {mg mb : Str → Option Value} {dp un : Nat} {gd : Option (List Code)} {cn : Str} {nm : List (Str × NameKind)} {ig ic : Bool} {mo : List (Str × Const)} {a : Addr} {ccd : Value} {cl : List (Str × Addr)} {outer : List Env} {A₀ : Around} {base h₀ : Heap} {L : Addr} {m : Str → Option Value} {news : List (Addr × Obj)} {s : Shared} {Q E : Value → Shared → Prop}
  (B : Below A₀ base outer h₀) (F : Fr h₀ L s.heap m) (X : (Mine.hd.heap_39 w.params).In h₀) (N : News h₀ L s.heap news) (T : Top topProg LOOSE mean mg mb h₀) (hdp : dp + 30 < recursionLimit) (hun : un + 150 < cLine) (XB : (Mine.hd.heap_39 w.params).In base) (TB : Top topProg LOOSE mean mg mb base) (D : KtsDicts (outer.filterMap (·.frame)) h₀)
  {x dx ld : Addr} {v ve : Value} {ct cd ad wt wd : Int} {k1 k2 k3 k4 k5 k6 k7 k8 k9 k10 k11 k12 k13 k14 k15 k16 k17 k18 t1 t2 t3 t4 t5 t6 t7 t8 t9 t10 t11 : Tok} (hx : (x, instObj 595 dx) ∈ news) (hd : (dx, fatD w k1 k2 k3 k4 k5 k6 k7 k8 k9 k10 k11 k12 k13 k14 k15 k16 k17 k18 (v) (.int 0 t1) (.int 0 t2) (.int 0 t3) (.int ct t4) (.int cd t5) (.int ad t6) (.int 0 t7) (.int wt t8) (.int wd t9) (.int 0 t10) (.int 0 t11) (.bool false) (.none) (.none) (.none) (.ref ld) (ve)) ∈ news) (h1 : 0 ≤ wd) (h2 : wd < 65536) (h3 : 0 ≤ wt) (h4 : wt < 65536)
  (ok : ∀ x dx k1 k2 k3 k4 k5 k6 t1 t2 t3 t4 t5 t6 Y Mo Da Ho Mi Se, Y = dY wd → Mo = dM wd → Da = dD wd → Ho = tH wt → Mi = tM wt → Se = tS wt → ∀ h₁ h' tk', KtsTurn (outer.filterMap (·.frame)) h₀ h₁ → Fr h₁ L h' m → Below A₀ base outer h₁ → (Mine.hd.heap_39 w.params).In h₁ → Top topProg LOOSE mean mg mb h₁ → KtsDicts (outer.filterMap (·.frame)) h₁ → News h₁ L h' ((x, instObj 104 dx) :: (dx, dateD w k1 k2 k3 k4 k5 k6 (.int Y t1) (.int Mo t2) (.int Da t3) (.int Ho t4) (.int Mi t5) (.int Se t6)) :: news) → Q (.ref x) { s with heap := h', toks := tk' })
  : wpAny (model PySem.Challenge.rw_jr0027_01.row.prog w) (aT none dp un gd cn ⟨.function, nm, ig, ic, mo⟩ L a ccd cl outer) (call (.ref 357) [.ref x]) Q E s := by
  have mkS : StopAt [38, 88, 98, 104, 371, 702, 709] := ⟨⟩
  refine wpAny_call ?_
  (refine' code_defSE (binds := [((Str.ofString "self"), .ref x)]) ?k1 ?k2 ?k3 (fun p hp => N p (sub2 hx hd p hp)) (News.rest N) off_rest ?k5 ?XB ?TB ?D ?T0 ?kA ?k6 ?k7 ?k8 ?k9 ?kB ?_ ?cK ?c2 ?c3 ?c4 ?c5; (case kA => exact rfl); (case k2 => k_asm); (case k1 => k_asm); (case XB => assumption); (case TB => assumption); (case D => assumption); (case T0 => exact KtsTurn.refl); (case k3 => k_asm); (case k5 => k_asm); (case k6 => k_is); (case k7 => k_is); (case k8 => k_room); (case k9 => first | exact BindsTo.of_eq rfl | exact binds_K (by k_in) rfl (by k_is) rfl rfl rfl | fail "enterSE: no rule for these arguments"); (case kB => exact locs rfl); (case cK => exact rfl); (case c2 => exact rfl); (case c3 => exact rfl); (case c4 => exact rfl); (case c5 => decide); k_whole; intro g' L' h' FG' F' N' B' X' T' D'; (try dsimp only); (try k_lift B'); (try k_fold))
  k_steps
  repeat' (refine Later.mk ?_; (first | (k_here; (with_reducible show wpAny _ _ (call (Value.ref 371) _) _ _ _); k_dflt (refine' c371 ?z9B ?z9F ?z9X ?z9N ?z9T ?z9d ?z9u ?z9XB ?z9TB ?z9D ?z9p ?z9q ?z9r ?z9s ?_; (case z9B => k_asm); (case z9F => k_asm); (case z9X => k_asm); (case z9N => k_asm); (case z9T => k_asm); (case z9d => k_room); (case z9u => ke_room); (case z9XB => assumption); (case z9TB => assumption); (case z9D => assumption); (case z9p => l_fact); (case z9q => l_fact); (case z9r => l_fact); (case z9s => l_fact); k_whole); intro x' d' k1' k2' k3' k4' k5' k6' t1' t2' t3' t4' t5' t6' Y' M' D' H' I' S' eY eM eD eH eI eS g' h' tk' T9 F' B' X' T' D9 N'; subst eY eM eD eH eI eS; (try (replace T9 := KtsTurn.trans (by assumption) T9)); (try k_lift B'); (try k_sweep); (try dsimp only)) | (k_here; (with_reducible show wpAny _ _ (call (Value.ref 98) [Value.int _ _]) _ _ _); k_dflt (refine' cDeserTime ?z9B ?z9F ?z9X ?z9N ?z9T ?z9d ?z9XB ?z9TB ?z9D ?z9p ?z9q ?_; (case z9B => k_asm); (case z9F => k_asm); (case z9X => k_asm); (case z9N => k_asm); (case z9T => k_asm); (case z9d => k_room); (case z9XB => assumption); (case z9TB => assumption); (case z9D => assumption); (case z9p => l_fact); (case z9q => l_fact); k_whole); intro Y' M' D' x' d' k1' k2' k3' t1' t2' t3' eY eM eD g' h' tk' T9 F' B' X' T' D9 N' l1 l2; subst eY eM eD; (try (replace T9 := KtsTurn.trans (by assumption) T9)); (try k_lt l1); (try k_lt2 l2); (try k_lift B'); (try k_sweep); (try dsimp only)) | (k_here; (with_reducible show wpAny _ _ (call (Value.ref 88) [Value.int _ _]) _ _ _); k_dflt (refine' cDeserDate ?z9B ?z9F ?z9X ?z9N ?z9T ?z9d ?z9XB ?z9TB ?z9D ?z9p ?z9q ?_; (case z9B => k_asm); (case z9F => k_asm); (case z9X => k_asm); (case z9N => k_asm); (case z9T => k_asm); (case z9d => k_room); (case z9XB => assumption); (case z9TB => assumption); (case z9D => assumption); (case z9p => l_fact); (case z9q => l_fact); k_whole); intro Y' M' D' x' d' k1' k2' k3' k4' k5' k6' t1' t2' t3' t4' t5' t6' eY eM eD g' h' tk' T9 F' B' X' T' D9 N' l1 l2; subst eY eM eD; (try (replace T9 := KtsTurn.trans (by assumption) T9)); (try k_lt l1); (try k_lt2 l2); (try k_lift B'); (try k_sweep); (try dsimp only)) | (k_here; (with_reducible show wpAny _ _ (call (Value.ref 709) [Value.int _ _]) _ _ _); k_dflt (refine' cLawTime ?z9B ?z9F ?z9X ?z9N ?z9T ?z9d ?z9p ?z9q ?_; (case z9B => k_asm); (case z9F => k_asm); (case z9X => k_asm); (case z9N => k_asm); (case z9T => k_asm); (case z9d => k_room); (case z9p => l_fact); (case z9q => l_fact); k_whole); intro Y' M' D' l' t1' t2' t3' eY eM eD h' tk' F' N' l1; subst eY eM eD; (try k_lt l1); (try k_sweep); (try dsimp only)) | (k_here; (with_reducible show wpAny _ _ (call (Value.ref 702) [Value.int _ _]) _ _ _); k_dflt (refine' cLawDate ?z9B ?z9F ?z9X ?z9N ?z9T ?z9d ?z9p ?z9q ?_; (case z9B => k_asm); (case z9F => k_asm); (case z9X => k_asm); (case z9N => k_asm); (case z9T => k_asm); (case z9d => k_room); (case z9p => l_fact); (case z9q => l_fact); k_whole); intro Y' M' D' l' t1' t2' t3' eY eM eD h' tk' F' N' l1; subst eY eM eD; (try k_lt l1); (try k_sweep); (try dsimp only)) | (k_here; (with_reducible show wpAny _ _ (call (Value.ref 104) [Value.int 1980 _, Value.int 1 _, Value.int 1 _]) _ _ _); k_dflt (refine' cDate0 ?z9B ?z9F ?z9X ?z9N ?z9T ?z9d ?_; (case z9B => k_asm); (case z9F => k_asm); (case z9X => k_asm); (case z9N => k_asm); (case z9T => k_asm); (case z9d => k_room); k_whole); intro x' d' k1' k2' k3' k4' k5' k6' t4' t5' t6' h' tk' F' N' l1 l2; (try k_lt l1); (try k_lt2 l2); (try k_sweep); (try dsimp only)) | (k_here; (with_reducible show wpAny _ _ (call (Value.ref 104) [Value.int _ _, Value.int _ _, Value.int _ _, Value.int _ _, Value.int _ _, Value.int _ _]) _ _ _); k_dflt (refine' cDate6 ?z9B ?z9F ?z9X ?z9N ?z9T ?z9d (fun hda' hok' x' d' k1' k2' k3' k4' k5' k6' h' tk' F' N' l1 l2 => ?_) (fun hnt' g' e' t' vs' h' tk' F' R' U' => ?_); (case z9B => k_asm); (case z9F => k_asm); (case z9X => k_asm); (case z9N => k_asm); (case z9T => k_asm); (case z9d => k_room); (all_goals k_whole)); (all_goals ((try k_lt l1); (try k_lt2 l2); (try k_sweep); (try (exact absurd ⟨by first | exact okDY _ | assumption, by first | exact okTH _ | exact okT0 | assumption⟩ hnt')); (try dsimp only)))) | (k_here; (with_reducible show wpAny _ _ (call (Value.ref 104) [Value.int _ _, Value.int _ _, Value.int _ _]) _ _ _); k_dflt (refine' cDate3 ?z9B ?z9F ?z9X ?z9N ?z9T ?z9d (fun hda' hok' x' d' k1' k2' k3' k4' k5' k6' h' tk' F' N' l1 l2 => ?_) (fun hnt' g' e' t' vs' h' tk' F' R' U' => ?_); (case z9B => k_asm); (case z9F => k_asm); (case z9X => k_asm); (case z9N => k_asm); (case z9T => k_asm); (case z9d => k_room); (all_goals k_whole)); (all_goals ((try k_lt l1); (try k_lt2 l2); (try k_sweep); (try (exact absurd ⟨by first | exact okDY _ | assumption, by first | exact okTH _ | exact okT0 | assumption⟩ hnt')); (try dsimp only)))) | (k_here; (with_reducible show wpAny _ _ (call (Value.ref 38) [Value.int 0 _, Value.int 0 _, Value.int 0 _]) _ _ _); k_dflt (refine' cDosTime0 ?z9B ?z9F ?z9X ?z9N ?z9T ?z9d ?_; (case z9B => k_asm); (case z9F => k_asm); (case z9X => k_asm); (case z9N => k_asm); (case z9T => k_asm); (case z9d => k_room); k_whole); intro x' d' k1' k2' k3' h' tk' F' N' l1 l2; (try k_lt l1); (try k_lt2 l2); (try k_sweep); (try dsimp only)) | (k_here; (with_reducible show wpAny _ _ (call (Value.ref 38) _) _ _ _); k_dflt (refine' cDosTime ?z9B ?z9F ?z9X ?z9N ?z9T ?z9d (fun hok' x' d' k1' k2' k3' h' tk' F' N' l1 l2 => ?_) (fun hnt' g' e' t' vs' h' tk' F' R' U' => ?_); (case z9B => k_asm); (case z9F => k_asm); (case z9X => k_asm); (case z9N => k_asm); (case z9T => k_asm); (case z9d => k_room); (all_goals k_whole)); (all_goals ((try k_lt l1); (try k_lt2 l2); (try k_sweep); (try dsimp only))))); k_steps)
  (with_reducible rename News _ _ _ (_ :: _) => kN9)
  refine' ok _ _ _ _ _ _ _ _ _ _ _ _ _ _ _ _ _ _ _ _ rfl rfl rfl rfl rfl rfl _ _ _ ?z9t ?z9f ?z9b ?z9i ?z9o ?z9k (News.app (News.drop9 ?z9n (subC ?z9a (subC ?z9c subNil))) ?z9r); (case z9n => exact kN9); (case z9a => k_mem); (case z9c => k_mem); (case z9f => assumption); (case z9b => assumption); (case z9i => assumption); (case z9o => assumption); (case z9k => assumption); (case z9t => first | assumption | exact KtsTurn.refl); (case z9r => exact News.whole N (sub2 hx hd) (News.drop9 kN9 (sub2 (by k_mem) (by k_mem))) (News.turn9 (by assumption) (by assumption)))
set_option maxRecDepth 100000 in
set_option maxHeartbeats 8000000 in
theorem cAtime {w : World} {mean : ExcName → Option Value} {mg mb : Str → Option Value} {dp un : Nat} {gd : Option (List Code)} {cn : Str} {nm : List (Str × NameKind)} {ig ic : Bool} {mo : List (Str × Const)} {a : Addr} {ccd : Value} {cl : List (Str × Addr)} {outer : List Env} {A₀ : Around} {base h₀ : Heap} {L : Addr} {m : Str → Option Value} {news : List (Addr × Obj)} {s : Shared} {Q E : Value → Shared → Prop}
  (B : Below A₀ base outer h₀) (F : Fr h₀ L s.heap m) (X : (Mine.hd.heap_39 w.params).In h₀) (N : News h₀ L s.heap news) (T : Top topProg LOOSE mean mg mb h₀) (hdp : dp + 30 < recursionLimit) (hun : un + 150 < cLine) (XB : (Mine.hd.heap_39 w.params).In base) (TB : Top topProg LOOSE mean mg mb base) (D : KtsDicts (outer.filterMap (·.frame)) h₀)
  {x dx ld : Addr} {v ve : Value} {ct cd ad wt wd : Int} {k1 k2 k3 k4 k5 k6 k7 k8 k9 k10 k11 k12 k13 k14 k15 k16 k17 k18 t1 t2 t3 t4 t5 t6 t7 t8 t9 t10 t11 : Tok} (hx : (x, instObj 595 dx) ∈ news) (hd : (dx, fatD w k1 k2 k3 k4 k5 k6 k7 k8 k9 k10 k11 k12 k13 k14 k15 k16 k17 k18 (v) (.int 0 t1) (.int 0 t2) (.int 0 t3) (.int ct t4) (.int cd t5) (.int ad t6) (.int 0 t7) (.int wt t8) (.int wd t9) (.int 0 t10) (.int 0 t11) (.bool false) (.none) (.none) (.none) (.ref ld) (ve)) ∈ news) (h1 : 0 ≤ ad) (h2 : ad < 65536)
  (ok : ∀ x dx k1 k2 k3 k4 k5 k6 t1 t2 t3 t4 t5 t6 Y Mo Da Ho Mi Se, Y = dY ad → Mo = dM ad → Da = dD ad → Ho = 0 → Mi = 0 → Se = 0 → ∀ h₁ h' tk', KtsTurn (outer.filterMap (·.frame)) h₀ h₁ → Fr h₁ L h' m → Below A₀ base outer h₁ → (Mine.hd.heap_39 w.params).In h₁ → Top topProg LOOSE mean mg mb h₁ → KtsDicts (outer.filterMap (·.frame)) h₁ → News h₁ L h' ((x, instObj 104 dx) :: (dx, dateD w k1 k2 k3 k4 k5 k6 (.int Y t1) (.int Mo t2) (.int Da t3) (.int Ho t4) (.int Mi t5) (.int Se t6)) :: news) → Q (.ref x) { s with heap := h', toks := tk' })
  : wpAny (model PySem.Challenge.rw_jr0027_01.row.prog w) (aT none dp un gd cn ⟨.function, nm, ig, ic, mo⟩ L a ccd cl outer) (call (.ref 364) [.ref x]) Q E s := by
  have mkS : StopAt [38, 88, 98, 104, 371, 702, 709] := ⟨⟩
  refine wpAny_call ?_
  (refine' code_defSE (binds := [((Str.ofString "self"), .ref x)]) ?k1 ?k2 ?k3 (fun p hp => N p (sub2 hx hd p hp)) (News.rest N) off_rest ?k5 ?XB ?TB ?D ?T0 ?kA ?k6 ?k7 ?k8 ?k9 ?kB ?_ ?cK ?c2 ?c3 ?c4 ?c5; (case kA => exact rfl); (case k2 => k_asm); (case k1 => k_asm); (case XB => assumption); (case TB => assumption); (case D => assumption); (case T0 => exact KtsTurn.refl); (case k3 => k_asm); (case k5 => k_asm); (case k6 => k_is); (case k7 => k_is); (case k8 => k_room); (case k9 => first | exact BindsTo.of_eq rfl | exact binds_K (by k_in) rfl (by k_is) rfl rfl rfl | fail "enterSE: no rule for these arguments"); (case kB => exact locs rfl); (case cK => exact rfl); (case c2 => exact rfl); (case c3 => exact rfl); (case c4 => exact rfl); (case c5 => decide); k_whole; intro g' L' h' FG' F' N' B' X' T' D'; (try dsimp only); (try k_lift B'); (try k_fold))
  k_steps
  repeat' (refine Later.mk ?_; (first | (k_here; (with_reducible show wpAny _ _ (call (Value.ref 371) _) _ _ _); k_dflt (refine' c371 ?z9B ?z9F ?z9X ?z9N ?z9T ?z9d ?z9u ?z9XB ?z9TB ?z9D ?z9p ?z9q ?z9r ?z9s ?_; (case z9B => k_asm); (case z9F => k_asm); (case z9X => k_asm); (case z9N => k_asm); (case z9T => k_asm); (case z9d => k_room); (case z9u => ke_room); (case z9XB => assumption); (case z9TB => assumption); (case z9D => assumption); (case z9p => l_fact); (case z9q => l_fact); (case z9r => l_fact); (case z9s => l_fact); k_whole); intro x' d' k1' k2' k3' k4' k5' k6' t1' t2' t3' t4' t5' t6' Y' M' D' H' I' S' eY eM eD eH eI eS g' h' tk' T9 F' B' X' T' D9 N'; subst eY eM eD eH eI eS; (try (replace T9 := KtsTurn.trans (by assumption) T9)); (try k_lift B'); (try k_sweep); (try dsimp only)) | (k_here; (with_reducible show wpAny _ _ (call (Value.ref 98) [Value.int _ _]) _ _ _); k_dflt (refine' cDeserTime ?z9B ?z9F ?z9X ?z9N ?z9T ?z9d ?z9XB ?z9TB ?z9D ?z9p ?z9q ?_; (case z9B => k_asm); (case z9F => k_asm); (case z9X => k_asm); (case z9N => k_asm); (case z9T => k_asm); (case z9d => k_room); (case z9XB => assumption); (case z9TB => assumption); (case z9D => assumption); (case z9p => l_fact); (case z9q => l_fact); k_whole); intro Y' M' D' x' d' k1' k2' k3' t1' t2' t3' eY eM eD g' h' tk' T9 F' B' X' T' D9 N' l1 l2; subst eY eM eD; (try (replace T9 := KtsTurn.trans (by assumption) T9)); (try k_lt l1); (try k_lt2 l2); (try k_lift B'); (try k_sweep); (try dsimp only)) | (k_here; (with_reducible show wpAny _ _ (call (Value.ref 88) [Value.int _ _]) _ _ _); k_dflt (refine' cDeserDate ?z9B ?z9F ?z9X ?z9N ?z9T ?z9d ?z9XB ?z9TB ?z9D ?z9p ?z9q ?_; (case z9B => k_asm); (case z9F => k_asm); (case z9X => k_asm); (case z9N => k_asm); (case z9T => k_asm); (case z9d => k_room); (case z9XB => assumption); (case z9TB => assumption); (case z9D => assumption); (case z9p => l_fact); (case z9q => l_fact); k_whole); intro Y' M' D' x' d' k1' k2' k3' k4' k5' k6' t1' t2' t3' t4' t5' t6' eY eM eD g' h' tk' T9 F' B' X' T' D9 N' l1 l2; subst eY eM eD; (try (replace T9 := KtsTurn.trans (by assumption) T9)); (try k_lt l1); (try k_lt2 l2); (try k_lift B'); (try k_sweep); (try dsimp only)) | (k_here; (with_reducible show wpAny _ _ (call (Value.ref 709) [Value.int _ _]) _ _ _); k_dflt (refine' cLawTime ?z9B ?z9F ?z9X ?z9N ?z9T ?z9d ?z9p ?z9q ?_; (case z9B => k_asm); (case z9F => k_asm); (case z9X => k_asm); (case z9N => k_asm); (case z9T => k_asm); (case z9d => k_room); (case z9p => l_fact); (case z9q => l_fact); k_whole); intro Y' M' D' l' t1' t2' t3' eY eM eD h' tk' F' N' l1; subst eY eM eD; (try k_lt l1); (try k_sweep); (try dsimp only)) | (k_here; (with_reducible show wpAny _ _ (call (Value.ref 702) [Value.int _ _]) _ _ _); k_dflt (refine' cLawDate ?z9B ?z9F ?z9X ?z9N ?z9T ?z9d ?z9p ?z9q ?_; (case z9B => k_asm); (case z9F => k_asm); (case z9X => k_asm); (case z9N => k_asm); (case z9T => k_asm); (case z9d => k_room); (case z9p => l_fact); (case z9q => l_fact); k_whole); intro Y' M' D' l' t1' t2' t3' eY eM eD h' tk' F' N' l1; subst eY eM eD; (try k_lt l1); (try k_sweep); (try dsimp only)) | (k_here; (with_reducible show wpAny _ _ (call (Value.ref 104) [Value.int 1980 _, Value.int 1 _, Value.int 1 _]) _ _ _); k_dflt (refine' cDate0 ?z9B ?z9F ?z9X ?z9N ?z9T ?z9d ?_; (case z9B => k_asm); (case z9F => k_asm); (case z9X => k_asm); (case z9N => k_asm); (case z9T => k_asm); (case z9d => k_room); k_whole); intro x' d' k1' k2' k3' k4' k5' k6' t4' t5' t6' h' tk' F' N' l1 l2; (try k_lt l1); (try k_lt2 l2); (try k_sweep); (try dsimp only)) | (k_here; (with_reducible show wpAny _ _ (call (Value.ref 104) [Value.int _ _, Value.int _ _, Value.int _ _, Value.int _ _, Value.int _ _, Value.int _ _]) _ _ _); k_dflt (refine' cDate6 ?z9B ?z9F ?z9X ?z9N ?z9T ?z9d (fun hda' hok' x' d' k1' k2' k3' k4' k5' k6' h' tk' F' N' l1 l2 => ?_) (fun hnt' g' e' t' vs' h' tk' F' R' U' => ?_); (case z9B => k_asm); (case z9F => k_asm); (case z9X => k_asm); (case z9N => k_asm); (case z9T => k_asm); (case z9d => k_room); (all_goals k_whole)); (all_goals ((try k_lt l1); (try k_lt2 l2); (try k_sweep); (try (exact absurd ⟨by first | exact okDY _ | assumption, by first | exact okTH _ | exact okT0 | assumption⟩ hnt')); (try dsimp only)))) | (k_here; (with_reducible show wpAny _ _ (call (Value.ref 104) [Value.int _ _, Value.int _ _, Value.int _ _]) _ _ _); k_dflt (refine' cDate3 ?z9B ?z9F ?z9X ?z9N ?z9T ?z9d (fun hda' hok' x' d' k1' k2' k3' k4' k5' k6' h' tk' F' N' l1 l2 => ?_) (fun hnt' g' e' t' vs' h' tk' F' R' U' => ?_); (case z9B => k_asm); (case z9F => k_asm); (case z9X => k_asm); (case z9N => k_asm); (case z9T => k_asm); (case z9d => k_room); (all_goals k_whole)); (all_goals ((try k_lt l1); (try k_lt2 l2); (try k_sweep); (try (exact absurd ⟨by first | exact okDY _ | assumption, by first | exact okTH _ | exact okT0 | assumption⟩ hnt')); (try dsimp only)))) | (k_here; (with_reducible show wpAny _ _ (call (Value.ref 38) [Value.int 0 _, Value.int 0 _, Value.int 0 _]) _ _ _); k_dflt (refine' cDosTime0 ?z9B ?z9F ?z9X ?z9N ?z9T ?z9d ?_; (case z9B => k_asm); (case z9F => k_asm); (case z9X => k_asm); (case z9N => k_asm); (case z9T => k_asm); (case z9d => k_room); k_whole); intro x' d' k1' k2' k3' h' tk' F' N' l1 l2; (try k_lt l1); (try k_lt2 l2); (try k_sweep); (try dsimp only)) | (k_here; (with_reducible show wpAny _ _ (call (Value.ref 38) _) _ _ _); k_dflt (refine' cDosTime ?z9B ?z9F ?z9X ?z9N ?z9T ?z9d (fun hok' x' d' k1' k2' k3' h' tk' F' N' l1 l2 => ?_) (fun hnt' g' e' t' vs' h' tk' F' R' U' => ?_); (case z9B => k_asm); (case z9F => k_asm); (case z9X => k_asm); (case z9N => k_asm); (case z9T => k_asm); (case z9d => k_room); (all_goals k_whole)); (all_goals ((try k_lt l1); (try k_lt2 l2); (try k_sweep); (try dsimp only))))); k_steps)
  (with_reducible rename News _ _ _ (_ :: _) => kN9)
  refine' ok _ _ _ _ _ _ _ _ _ _ _ _ _ _ _ _ _ _ _ _ rfl rfl rfl rfl rfl rfl _ _ _ ?z9t ?z9f ?z9b ?z9i ?z9o ?z9k (News.app (News.drop9 ?z9n (subC ?z9a (subC ?z9c subNil))) ?z9r); (case z9n => exact kN9); (case z9a => k_mem); (case z9c => k_mem); (case z9f => assumption); (case z9b => assumption); (case z9i => assumption); (case z9o => assumption); (case z9k => assumption); (case z9t => first | assumption | exact KtsTurn.refl); (case z9r => exact News.whole N (sub2 hx hd) (News.drop9 kN9 (sub2 (by k_mem) (by k_mem))) (News.turn9 (by assumption) (by assumption)))
end
section
def IsFat (w : World) (o : Obj) (ct cd ad wt wd : Int) : Prop := ∃ (v ve : Value) (ld : Addr) (k1 k2 k3 k4 k5 k6 k7 k8 k9 k10 k11 k12 k13 k14 k15 k16 k17 k18 : Tok) (t1 t2 t3 t4 t5 t6 t7 t8 t9 t10 t11 : Tok), o = fatD w k1 k2 k3 k4 k5 k6 k7 k8 k9 k10 k11 k12 k13 k14 k15 k16 k17 k18 (v) (.int 0 t1) (.int 0 t2) (.int 0 t3) (.int ct t4) (.int cd t5) (.int ad t6) (.int 0 t7) (.int wt t8) (.int wd t9) (.int 0 t10) (.int 0 t11) (.bool false) (.none) (.none) (.none) (.ref ld) (ve)
set_option maxRecDepth 100000 in
set_option maxHeartbeats 8000000 in
theorem eCt {w : World} {mean : ExcName → Option Value} {mg mb : Str → Option Value} {dp un : Nat} {gd : Option (List Code)} {cn : Str} {nm : List (Str × NameKind)} {ig ic : Bool} {mo : List (Str × Const)} {a : Addr} {ccd : Value} {cl : List (Str × Addr)} {outer : List Env} {A₀ : Around} {base h₀ : Heap} {L : Addr} {m : Str → Option Value} {news : List (Addr × Obj)} {s : Shared} {Q E : Value → Shared → Prop}
  (B : Below A₀ base outer h₀) (F : Fr h₀ L s.heap m) (X : (Mine.hd.heap_39 w.params).In h₀) (N : News h₀ L s.heap news) (T : Top topProg LOOSE mean mg mb h₀) (hdp : dp + 30 < recursionLimit) (hun : un + 150 < cLine) (XB : (Mine.hd.heap_39 w.params).In base) (TB : Top topProg LOOSE mean mg mb base) (D : KtsDicts (outer.filterMap (·.frame)) h₀)
  {x dx : Addr} {o : Obj} {ct cd ad wt wd : Int} (hx : (x, instObj 595 dx) ∈ news) (hd : (dx, o) ∈ news) (ho : IsFat w o ct cd ad wt wd) (h1 : 0 ≤ cd) (h2 : cd < 65536) (h3 : 0 ≤ ct) (h4 : ct < 65536)
  (ok : ∀ x' d' o', IsDate w o' (dY cd) (dM cd) (dD cd) (tH ct) (tM ct) (tS ct) → ∀ h₁ h' tk', KtsTurn (outer.filterMap (·.frame)) h₀ h₁ → Fr h₁ L h' m → Below A₀ base outer h₁ → (Mine.hd.heap_39 w.params).In h₁ → Top topProg LOOSE mean mg mb h₁ → KtsDicts (outer.filterMap (·.frame)) h₁ → News h₁ L h' ((x', instObj 104 d') :: (d', o') :: news) → Q (.ref x') { s with heap := h', toks := tk' })
  : wpAny (model PySem.Challenge.rw_jr0027_01.row.prog w) (aT none dp un gd cn ⟨.function, nm, ig, ic, mo⟩ L a ccd cl outer) (call (.ref 350) [.ref x]) Q E s := by
  obtain ⟨v, ve, ld, k1, k2, k3, k4, k5, k6, k7, k8, k9, k10, k11, k12, k13, k14, k15, k16, k17, k18, t1, t2, t3, t4, t5, t6, t7, t8, t9, t10, t11, rfl⟩ := ho
  refine cCtime B F X N T hdp hun XB TB D hx hd h1 h2 h3 h4 (fun x' d' k1 k2 k3 k4 k5 k6 t1 t2 t3 t4 t5 t6 Y M D' H I S eY eM eD eH eI eS g h' tk' T9 F' B' X' T' D9 N' => ?_)
  subst eY eM eD eH eI eS
  exact ok _ _ _ ⟨_, _, _, _, _, _, _, _, _, _, _, _, rfl⟩ _ _ _ T9 F' B' X' T' D9 N'
set_option maxRecDepth 100000 in
set_option maxHeartbeats 8000000 in
theorem eMt {w : World} {mean : ExcName → Option Value} {mg mb : Str → Option Value} {dp un : Nat} {gd : Option (List Code)} {cn : Str} {nm : List (Str × NameKind)} {ig ic : Bool} {mo : List (Str × Const)} {a : Addr} {ccd : Value} {cl : List (Str × Addr)} {outer : List Env} {A₀ : Around} {base h₀ : Heap} {L : Addr} {m : Str → Option Value} {news : List (Addr × Obj)} {s : Shared} {Q E : Value → Shared → Prop}
  (B : Below A₀ base outer h₀) (F : Fr h₀ L s.heap m) (X : (Mine.hd.heap_39 w.params).In h₀) (N : News h₀ L s.heap news) (T : Top topProg LOOSE mean mg mb h₀) (hdp : dp + 30 < recursionLimit) (hun : un + 150 < cLine) (XB : (Mine.hd.heap_39 w.params).In base) (TB : Top topProg LOOSE mean mg mb base) (D : KtsDicts (outer.filterMap (·.frame)) h₀)
  {x dx : Addr} {o : Obj} {ct cd ad wt wd : Int} (hx : (x, instObj 595 dx) ∈ news) (hd : (dx, o) ∈ news) (ho : IsFat w o ct cd ad wt wd) (h1 : 0 ≤ wd) (h2 : wd < 65536) (h3 : 0 ≤ wt) (h4 : wt < 65536)
  (ok : ∀ x' d' o', IsDate w o' (dY wd) (dM wd) (dD wd) (tH wt) (tM wt) (tS wt) → ∀ h₁ h' tk', KtsTurn (outer.filterMap (·.frame)) h₀ h₁ → Fr h₁ L h' m → Below A₀ base outer h₁ → (Mine.hd.heap_39 w.params).In h₁ → Top topProg LOOSE mean mg mb h₁ → KtsDicts (outer.filterMap (·.frame)) h₁ → News h₁ L h' ((x', instObj 104 d') :: (d', o') :: news) → Q (.ref x') { s with heap := h', toks := tk' })
  : wpAny (model PySem.Challenge.rw_jr0027_01.row.prog w) (aT none dp un gd cn ⟨.function, nm, ig, ic, mo⟩ L a ccd cl outer) (call (.ref 357) [.ref x]) Q E s := by
  obtain ⟨v, ve, ld, k1, k2, k3, k4, k5, k6, k7, k8, k9, k10, k11, k12, k13, k14, k15, k16, k17, k18, t1, t2, t3, t4, t5, t6, t7, t8, t9, t10, t11, rfl⟩ := ho
  refine cMtime B F X N T hdp hun XB TB D hx hd h1 h2 h3 h4 (fun x' d' k1 k2 k3 k4 k5 k6 t1 t2 t3 t4 t5 t6 Y M D' H I S eY eM eD eH eI eS g h' tk' T9 F' B' X' T' D9 N' => ?_)
  subst eY eM eD eH eI eS
  exact ok _ _ _ ⟨_, _, _, _, _, _, _, _, _, _, _, _, rfl⟩ _ _ _ T9 F' B' X' T' D9 N'
set_option maxRecDepth 100000 in
set_option maxHeartbeats 8000000 in
theorem eAt {w : World} {mean : ExcName → Option Value} {mg mb : Str → Option Value} {dp un : Nat} {gd : Option (List Code)} {cn : Str} {nm : List (Str × NameKind)} {ig ic : Bool} {mo : List (Str × Const)} {a : Addr} {ccd : Value} {cl : List (Str × Addr)} {outer : List Env} {A₀ : Around} {base h₀ : Heap} {L : Addr} {m : Str → Option Value} {news : List (Addr × Obj)} {s : Shared} {Q E : Value → Shared → Prop}
  (B : Below A₀ base outer h₀) (F : Fr h₀ L s.heap m) (X : (Mine.hd.heap_39 w.params).In h₀) (N : News h₀ L s.heap news) (T : Top topProg LOOSE mean mg mb h₀) (hdp : dp + 30 < recursionLimit) (hun : un + 150 < cLine) (XB : (Mine.hd.heap_39 w.params).In base) (TB : Top topProg LOOSE mean mg mb base) (D : KtsDicts (outer.filterMap (·.frame)) h₀)
  {x dx : Addr} {o : Obj} {ct cd ad wt wd : Int} (hx : (x, instObj 595 dx) ∈ news) (hd : (dx, o) ∈ news) (ho : IsFat w o ct cd ad wt wd) (h1 : 0 ≤ ad) (h2 : ad < 65536)
  (ok : ∀ x' d' o', IsDate w o' (dY ad) (dM ad) (dD ad) 0 0 0 → ∀ h₁ h' tk', KtsTurn (outer.filterMap (·.frame)) h₀ h₁ → Fr h₁ L h' m → Below A₀ base outer h₁ → (Mine.hd.heap_39 w.params).In h₁ → Top topProg LOOSE mean mg mb h₁ → KtsDicts (outer.filterMap (·.frame)) h₁ → News h₁ L h' ((x', instObj 104 d') :: (d', o') :: news) → Q (.ref x') { s with heap := h', toks := tk' })
  : wpAny (model PySem.Challenge.rw_jr0027_01.row.prog w) (aT none dp un gd cn ⟨.function, nm, ig, ic, mo⟩ L a ccd cl outer) (call (.ref 364) [.ref x]) Q E s := by
  obtain ⟨v, ve, ld, k1, k2, k3, k4, k5, k6, k7, k8, k9, k10, k11, k12, k13, k14, k15, k16, k17, k18, t1, t2, t3, t4, t5, t6, t7, t8, t9, t10, t11, rfl⟩ := ho
  refine cAtime B F X N T hdp hun XB TB D hx hd h1 h2 (fun x' d' k1 k2 k3 k4 k5 k6 t1 t2 t3 t4 t5 t6 Y M D' H I S eY eM eD eH eI eS g h' tk' T9 F' B' X' T' D9 N' => ?_)
  subst eY eM eD eH eI eS
  exact ok _ _ _ ⟨_, _, _, _, _, _, _, _, _, _, _, _, rfl⟩ _ _ _ T9 F' B' X' T' D9 N'
theorem gCt {w : World} {A : Around} {E : Value → Shared → Prop} {s : Shared} {h₀ : Heap} {L : Addr} {m : Str → Option Value} {news : List (Addr × Obj)} {x dx : Addr} {o : Obj} {ct cd ad wt wd : Int} {pl : Sem Bool} {Q : Value × List Value → Shared → Prop}
    (F : Fr h₀ L s.heap m) (X : (Mine.hd.heap_39 w.params).In h₀) (N : News h₀ L s.heap news) (hx : (x, instObj 595 dx) ∈ news) (hd : (dx, o) ∈ news) (ho : IsFat w o ct cd ad wt wd) (k : Q (.ref 350, [.ref x]) s) :
    wpAny (model PySem.Challenge.rw_jr0027_01.row.prog w) A (getMethod (.ref x) (Str.ofString "get_ctime") pl) Q E s := by
  obtain ⟨v, ve, ld, k1, k2, k3, k4, k5, k6, k7, k8, k9, k10, k11, k12, k13, k14, k15, k16, k17, k18, t1, t2, t3, t4, t5, t6, t7, t8, t9, t10, t11, rfl⟩ := ho
  exact method_inst F X (InstAt.of_news N hx hd) (by k_is) (by k_is) (by k_is) (by k_get) k
theorem gMt {w : World} {A : Around} {E : Value → Shared → Prop} {s : Shared} {h₀ : Heap} {L : Addr} {m : Str → Option Value} {news : List (Addr × Obj)} {x dx : Addr} {o : Obj} {ct cd ad wt wd : Int} {pl : Sem Bool} {Q : Value × List Value → Shared → Prop}
    (F : Fr h₀ L s.heap m) (X : (Mine.hd.heap_39 w.params).In h₀) (N : News h₀ L s.heap news) (hx : (x, instObj 595 dx) ∈ news) (hd : (dx, o) ∈ news) (ho : IsFat w o ct cd ad wt wd) (k : Q (.ref 357, [.ref x]) s) :
    wpAny (model PySem.Challenge.rw_jr0027_01.row.prog w) A (getMethod (.ref x) (Str.ofString "get_mtime") pl) Q E s := by
  obtain ⟨v, ve, ld, k1, k2, k3, k4, k5, k6, k7, k8, k9, k10, k11, k12, k13, k14, k15, k16, k17, k18, t1, t2, t3, t4, t5, t6, t7, t8, t9, t10, t11, rfl⟩ := ho
  exact method_inst F X (InstAt.of_news N hx hd) (by k_is) (by k_is) (by k_is) (by k_get) k
theorem gAt {w : World} {A : Around} {E : Value → Shared → Prop} {s : Shared} {h₀ : Heap} {L : Addr} {m : Str → Option Value} {news : List (Addr × Obj)} {x dx : Addr} {o : Obj} {ct cd ad wt wd : Int} {pl : Sem Bool} {Q : Value × List Value → Shared → Prop}
    (F : Fr h₀ L s.heap m) (X : (Mine.hd.heap_39 w.params).In h₀) (N : News h₀ L s.heap news) (hx : (x, instObj 595 dx) ∈ news) (hd : (dx, o) ∈ news) (ho : IsFat w o ct cd ad wt wd) (k : Q (.ref 364, [.ref x]) s) :
    wpAny (model PySem.Challenge.rw_jr0027_01.row.prog w) A (getMethod (.ref x) (Str.ofString "get_atime") pl) Q E s := by
  obtain ⟨v, ve, ld, k1, k2, k3, k4, k5, k6, k7, k8, k9, k10, k11, k12, k13, k14, k15, k16, k17, k18, t1, t2, t3, t4, t5, t6, t7, t8, t9, t10, t11, rfl⟩ := ho
  exact method_inst F X (InstAt.of_news N hx hd) (by k_is) (by k_is) (by k_is) (by k_get) k
set_option maxRecDepth 100000 in
set_option maxHeartbeats 8000000 in
theorem ePos {w : World} {mean : ExcName → Option Value} {mg mb : Str → Option Value} {dp un : Nat} {gd : Option (List Code)} {cn : Str} {nm : List (Str × NameKind)} {ig ic : Bool} {mo : List (Str × Const)} {a : Addr} {ccd : Value} {cl : List (Str × Addr)} {outer : List Env} {A₀ : Around} {base h₀ : Heap} {L : Addr} {m : Str → Option Value} {news : List (Addr × Obj)} {s : Shared} {Q E : Value → Shared → Prop}
  (B : Below A₀ base outer h₀) (F : Fr h₀ L s.heap m) (X : (Mine.hd.heap_39 w.params).In h₀) (N : News h₀ L s.heap news) (T : Top topProg LOOSE mean mg mb h₀) (hdp : dp + 12 < recursionLimit)
  {v : Value} {ct cd ad wt wd : Int} {t1 t2 t3 t4 t5 t6 t7 t8 t9 t10 t11 : Tok} 
  (ok : ∀ x' d' o, IsFat w o ct cd ad wt wd → ∀ h' tk', Fr h₀ L h' m → News h₀ L h' ((x', instObj 595 d') :: (d', o) :: news) → Q (.ref x') { s with heap := h', toks := tk' })
  : wpAny (model PySem.Challenge.rw_jr0027_01.row.prog w) (aT none dp un gd cn ⟨.function, nm, ig, ic, mo⟩ L a ccd cl outer) (call (.ref 595) [v, .int 0 t1, .int 0 t2, .int 0 t3, .int ct t4, .int cd t5, .int ad t6, .int 0 t7, .int wt t8, .int wd t9, .int 0 t10, .int 0 t11]) Q E s := by
  refine' cFat (ve := .str (Str.ofString "latin-1") 453) B F X N T hdp ?z9f ?z9h ?z9k
  (case z9f => k_is)
  (case z9h => exact (fun s9 x9 X9 => binds_K X9 rfl (by k_is) rfl rfl rfl))
  (case z9k => exact fun x' d' ld k1 k2 k3 k4 k5 k6 k7 k8 k9 k10 k11 k12 k13 k14 k15 k16 k17 k18 h' tk' F' N' l1 l2 => ok _ _ _ ⟨_, _, _, _, _, _, _, _, _, _, _, _, _, _, _, _, _, _, _, _, _, _, _, _, _, _, _, _, _, _, _, _, rfl⟩ _ _ F' N')
end
section
variable {prog : Program} {w : World} {A₀ A : Around} {s : Shared} {base h₀ g₀ : Heap} {outer : List Env} {L a : Addr} {m : Str → Option Value} {cn : Str} {cs : Scope} {ccd : Value} {cl : List (Str × Addr)} {own news : List (Addr × Obj)} {K : Frag} {p : Program} {loose : List Str} {mean : ExcName → Option Value} {mg mb : Str → Option Value}
  {R : Result → Shared → Prop} {name qual : Str} {params : Arguments} {body : List Stmt} {scope : Scope} {dV kV doc pm cdv ct oc : Value} {an od : Option Addr} {osl : Array (Option Value)} {f : Addr} {args : Args} {binds : List (Str × Value)}
/-- a def with a captured local, walked in wpG, with a ledger of its own -/
theorem code_defGSC (B : Below A₀ base outer h₀) (F : Fr h₀ L s.heap m) (X₀ : K.In h₀) (N : News h₀ L s.heap own) (NT : News h₀ L s.heap news) (hoff : ∀ p ∈ news, ∀ q ∈ own, p.1 ≠ q.1) (T : Top p loose mean mg mb h₀) (XB : K.In base) (TB : Top p loose mean mg mb base) (D : KtsDicts (outer.filterMap (·.frame)) h₀)
    (T0 : KtsTurn (outer.filterMap (·.frame)) g₀ h₀) (hA : A.frames = some (envX cn cs L a ccd cl :: outer))
    (ho : K.lookup f = some ⟨oc, od, .func (fnOf name qual params body scope dV kV doc pm an cdv ct), osl⟩) (hcd : codeIn K cdv qual = true) (hroom : A.depth < recursionLimit)
    (hbind : BindsTo s (fnOf name qual params body scope dV kV doc pm an cdv ct) args binds) (hkind : (binds.all fun y => scope.names.lookup y.1 == some .local || scope.names.lookup y.1 == some .cell) = true)
    (hnd : ((cellsFrom 0 scope.names []).map (·.1)).Nodup)
    (h : ∀ g L' h₁ tk cells, Fr h₀ L g m → Fr g L' h₁ (bindL (envOfC qual scope L' f cdv).kindOf binds fun _ => none) → News g L' h₁ (cells ++ own) →
      CellsAre (bindC (envOfC qual scope L' f cdv).kindOf binds fun _ => none) (cellsFrom (L' + 1) scope.names []) cells → Below A base (envX cn cs L a ccd cl :: outer) g → K.In g → Top p loose mean mg mb g → KtsDicts ((envX cn cs L a ccd cl :: outer).filterMap (·.frame)) g → (∀ p ∈ own, p.1 < L') →
      wpG (model prog w) (A.deeper (envOfC qual scope L' f cdv)) (execs body (envOfC qual scope L' f cdv))
        (fun fl s' => LeaveS ((envX cn cs L a ccd cl :: outer).filterMap (·.frame)) A₀ base outer K p loose mean mg mb g₀ h₀ L m g (fun r s'' => News h₀ L s''.heap news → R r s'') (match fl with | .ret v => v | _ => .none) s')
        { s with heap := h₁, toks := tk })
    (hck : cs.kind = .function) (hco : scope.isCoroutine = false) (hgen : scope.isGenerator = false) (hk : scope.kind = .function) : codeG (model prog w) A (.call (.ref f) args) R s := by
  have X := X₀.keeps F.keep
  refine codeG.call_function hroom (X _ _ ho) rfl hco hgen rfl (codeRec_of X hcd) (hbind _ _ _ _ ?_)
  refine wpAny_newFunctionEnv_cells hk (kindsX hkind _) fun env' he s' x => ?_
  subst he
  refine ⟨(T.nolimit.keeps F.keep).keeps x.toInCall.keep, codeG.func ?_⟩
  obtain ⟨h₁, tk, rfl, _⟩ := x.done
  have hk₁ := x.toInCall.keep
  obtain ⟨cells, NC, Y⟩ := Cl.news (h₀ := s.heap) (Nat.le_refl _) fun n c hm => ⟨x.cell n c (lookup_of_mem_nodup (cellsFrom_names scope.names 0 (s.heap.objs.size + 1) [] [] rfl ▸ hnd) hm), x.above n c hm⟩
  obtain ⟨oL, es, ep, hLg, hLd, hN, hNs, st, B₂⟩ := kts_enterX B F N hA hck
  have hT : ∀ p ∈ news, (hideAll s.heap (own.map (·.1))).get? p.1 = some p.2 := fun p hp => hideAll_get _ (NT p hp).1 fun q => by
    obtain ⟨z, hz, e⟩ := List.mem_map.mp q
    exact hoff p hp z hz e.symm
  refine wpG.mono (h _ s.heap.objs.size h₁ tk cells ⟨hN _ hLg, st, F.above⟩ ⟨x.toInCall.ns, fun b o e => hk₁ b o (of_hideAll _ e), Nat.le_of_eq (hideAll_size _ _)⟩
    (fun p hp => ?_) Y B₂ (X₀.keeps st) (T.keeps st) (fun b hb => by
      rcases kts_memX hb with rfl | hb
      · exact ⟨oL, es, ep, hLg, hLd⟩
      · obtain ⟨o, es', n', ho', hd'⟩ := D b hb
        exact ⟨o, es', n', st b o ho', hd'⟩) (fun p hp => Heap.lt_size (N p hp).1)) (fun fl s' hl => ?_)
  · rcases List.mem_append.mp hp with hp | hp
    · refine ⟨(NC p hp).1, (NC p hp).2.1, ?_⟩
      cases q : (hideAll s.heap (own.map (·.1))).get? p.1 with
      | none => rfl
      | some o => have := of_hideAll _ q; rw [(NC p hp).2.2] at this; cases this
    · exact ⟨hk₁ _ _ (N p hp).1, Nat.ne_of_lt (Heap.lt_size (N p hp).1), hideAll_none _ (List.mem_map_of_mem hp)⟩
  have nL₀ : h₀.get? L = none := kts_self F
  rcases hl with ⟨L', m', news', F', N', k⟩ | ⟨g', L', m', news', T', F', N', k⟩
  · refine k ⟨hN _ (F'.keep _ _ hLg), fun b o e => F'.keep b o (st b o e), F.above⟩ (fun p hp => ⟨(N' p hp).1, fun q => ?_, staysFresh st (N' p hp).2.2⟩) (fun p hp => ⟨F'.keep _ _ (hT p hp), (NT p hp).2⟩)
    have := (N' p hp).2.2
    rw [q, hLg] at this
    cases this
  obtain ⟨sl, hs⟩ := T'.up hLg
  have nfs : ∀ b, b ∈ (envX cn cs L a ccd cl :: outer).filterMap (·.frame) → b = L ∨ b ∈ outer.filterMap (·.frame) := fun b q => kts_memX q
  obtain ⟨T₁, S₁⟩ := kts_turn_at (h := s'.heap) (fs := outer.filterMap (·.frame)) (g := h₀)
    (fun b hb => by
      obtain ⟨_, o, ho', _⟩ := B.frames.mem hb
      exact ⟨o, ho'⟩)
    (fun b o e nmem => F'.keep b o (T'.other b o (st b o e) (fun q => by
      rcases nfs b q with z | z
      · rw [z, nL₀] at e; cases e
      · exact nmem z)))
    (fun b o e hm => by
      obtain ⟨sl', hs'⟩ := T'.up (st b o e)
      exact ⟨sl', F'.keep _ _ hs'⟩)
  have B₃ : Below A₀ base outer (ktsHeap s'.heap (outer.filterMap (·.frame)) h₀) := ⟨B.stack, fun b o e => T₁.other b o (B.stays b o e) (fun hm => by
    rw [(B.frames.mem hm).1] at e
    cases e), B.frames.of_keeps fun b o e _ => by
    obtain ⟨sl', hs'⟩ := T₁.up e
    exact ⟨_, hs', rfl⟩⟩
  refine k _ (T0.trans T₁) ⟨hNs sl _ (F'.keep _ _ hs), S₁, by rw [T₁.size]; exact F.above⟩ (fun p hp => ⟨(N' p hp).1, fun q => ?_, T₁.none_ _ (staysFresh st (turnFresh T' (N' p hp).2.2))⟩) B₃ (XB.keeps B₃.stays) (TB.keeps B₃.stays) (D.turn T₁)
    (fun p hp => ⟨F'.keep _ _ (T'.other _ _ (hT p hp) fun q => ?_), (NT p hp).2⟩)
  · have := (N' p hp).2.2
    rw [q, hs] at this
    cases this
  · rcases nfs _ q with z | z
    · exact (NT p hp).2.1 z
    · obtain ⟨_, o, ho', _⟩ := B.frames.mem z
      rw [(NT p hp).2.2] at ho'
      cases ho'
end
def keepM {α : Type} : List Bool → List α → List α
  | true :: m, x :: l => x :: keepM m l
  | false :: m, _ :: l => keepM m l
  | _, _ => []
theorem keepM_sub {α : Type} : ∀ (m : List Bool) (l : List α), ∀ p ∈ keepM m l, p ∈ l
  | true :: m, x :: l, p, h => by
    rcases List.mem_cons.mp h with rfl | h
    · exact List.mem_cons_self
    · exact List.mem_cons_of_mem _ (keepM_sub m l p h)
  | false :: m, _ :: l, p, h => List.mem_cons_of_mem _ (keepM_sub m l p h)
  | [], _, _, h => nomatch h
  | true :: _, [], _, h => nomatch h
  | false :: _, [], _, h => nomatch h
theorem listItem {prog : Program} {w : World} {A : Around} {E : Value → Shared → Prop} {s : Shared} {h₀ : Heap} {L l : Addr} {news : List (Addr × Obj)} {its : List Value} {n : Nat} {k : Int} {u : Tok} {x : Value} {value slice : Expr} {Q : Value → Shared → Prop}
    (N : News h₀ L s.heap news) (hm : (l, ({ cls := .type "list", data := .seq its.toArray n } : Obj)) ∈ news) (h0 : 0 ≤ k) (hhi : k < 2 ^ 63) (hx : its[k.toNat]? = some x) (h : Q x s)
    (hs : subscripted slice false (.ref l) (.int k u) = operate [.ref l, .int k u] (getItem (.ref l) (.int k u)) := by with_unfolding_all rfl) :
    wpAny (model prog w) A (subscriptTail value slice (.ref l) (.int k u)) Q E s :=
  have hl : s.heap.IsList l its.toArray := ⟨_, (N _ hm).1, rfl, _, rfl⟩
  tail_any hl.typeIs slot_list_getitem.lookup (wpAny_getItem_list hl h0 hhi (by simpa using hx) h) hs
theorem modB (x : Int) : 0 ≤ x.fmod 65536 ∧ x.fmod 65536 < 65536 := by rw [Int.fmod_eq_emod_of_nonneg _ (by decide)]; omega
def TupAt (ax : Addr) (its : Array Value) (news : List (Addr × Obj)) : Prop := False ∨ ∃ o, (ax, o) ∈ news ∧ o.cls = .type "tuple" ∧ ∃ n, o.data = .seq its n
theorem TupAt.tup {h₀ h : Heap} {L ax : Addr} {its : Array Value} {news : List (Addr × Obj)} (x : TupAt ax its news) (N : News h₀ L h news) : h.IsTuple ax its := by
  rcases x with x | ⟨o, hm, c, n, d⟩
  · exact x.elim
  · exact ⟨o, (N _ hm).1, c, n, d⟩
def TupSrc (prog : Program) (w : World) (A : Around) (L : Addr) (m : Str → Option Value) (env : Env) (elt : Expr) (x : Str) (scope : Scope) (cl : List (Str × Addr)) (Fin : Heap → Shared → List Value → List (Addr × Obj) → Prop) (xv : Value) (s₁ : Shared) : Prop :=
  ∃ h₀ ax its news, xv = .ref ax ∧ A.handled = none ∧ Fr h₀ L s₁.heap m ∧ News h₀ L s₁.heap news ∧ TupAt ax its news ∧ its.size ≤ sizeLine ∧
    ∀ s₂ : Shared, (∃ h, s₂ = { s₁ with heap := h }) → LCg.CompRest prog w A h₀ L m env elt x scope cl s₂ (TupAt ax its) (fun i v => its[i]? = some v) (Fin h₀ s₂) its.size 0 [] news
section
variable {prog : Program} {w : World} {A : Around} {E : Value → Shared → Prop} {s : Shared} {h₀ : Heap} {L : Addr} {m : Str → Option Value} {env : Env}
theorem TupSrc.ledger {elt : Expr} {x : Str} {scope : Scope} {cl : List (Str × Addr)} {Fin : Heap → Shared → List Value → List (Addr × Obj) → Prop} {ax : Addr} {its : Array Value} {k : Nat} {news : List (Addr × Obj)} {s₁ : Shared}
    (hh : A.handled = none) (F : Fr h₀ L s₁.heap m) (N : News h₀ L s₁.heap news) (hm : (ax, ({ cls := .type "tuple", data := .seq its k } : Obj)) ∈ news) (hsz : its.size ≤ sizeLine)
    (h : ∀ g, LCg.CompRest prog w A h₀ L m env elt x scope cl { s₁ with heap := g } (TupAt ax its) (fun i v => its[i]? = some v) (Fin h₀ { s₁ with heap := g }) its.size 0 [] news) :
    TupSrc prog w A L m env elt x scope cl Fin (.ref ax) s₁ := ⟨h₀, ax, its, news, rfl, hh, F, N, .inr ⟨_, hm, rfl, _, rfl⟩, hsz, fun _ ⟨g, e⟩ => e ▸ h g⟩
theorem tup_st {ax I : Addr} {its : Array Value} : ∀ i (h h' : Heap) (o : Obj) (nw : List (Addr × Obj)), (h.IsTupleIter I ax i ∧ h.IsTuple ax its) → h.get? I = some o → h'.get? I = some o → (∀ b o, h₀.get? b = some o → h'.get? b = some o) → News h₀ L h' nw → TupAt ax its nw → (h'.IsTupleIter I ax i ∧ h'.IsTuple ax its) :=
  fun i h h' o nw st e e' k N S => ⟨by obtain ⟨o', q, r⟩ := st.1; rw [e] at q; cases q; exact ⟨o, e', r⟩, S.tup N⟩
theorem compTup {elt iter : Expr} {x : Str} {px : Pos} {scope : Scope} {cl : List (Str × Addr)} {pos : Pos} {Q : Value → Shared → Prop} (F₀ : Fr h₀ L s.heap m)
    (hclos : closureFor scope env = pure cl) (hcell : ∀ y ∈ scope.names, y.2 ≠ .cell) (hkind : scope.kind = .function)
    (hnames : ∀ y ∈ scope.names, y.2 = .local → scope.names.lookup y.1 = some .local) (hx : scope.names.lookup x = some .local)
    (h : wpAny (model prog w) A (eval iter env) (TupSrc prog w A L m env elt x scope cl (fun h₀ s₂ => LCg.FinE h₀ L m s₂ Q)) E s)
    (hs : ∀ x, foldedSetIterable iter env x = pure x := by intro _; rfl) :
    wpAny (model prog w) A (eval (.ListComp elt [⟨.Name x px, iter, [], 0⟩] scope pos) env) Q E s := by
  rw [eval_ListComp]
  refine wpAny_comprehension_free (use := none) rfl hs hclos hkind hnames (wpAny_mono h (fun xv s₁ h₁ => ?_) fun _ _ e => e)
  obtain ⟨h₁, ax, its, news, rfl, hh, F, N, S, hsz, R⟩ := h₁
  have ht := S.tup N
  have hlt : ax < s₁.heap.objs.size := by obtain ⟨_, e, _⟩ := ht; exact Heap.lt_size e
  refine wpAny_pyIter_tuple ht ?_
  have up : ∀ b o, s₁.heap.get? b = some o → (s₁.heap.push { cls := .type "tuple_iterator", data := .fields #[.ref ax, .int 0 0] }).get? b = some o := fun b o e => Heap.get?_push_of_some _ e
  refine LCg.block_U (Walks.tuple hh s₁.heap.objs.size ax (Nat.ne_of_lt hlt) its) hsz (fun i h st => by obtain ⟨o, e, _⟩ := st.1; exact ⟨o, e⟩) tup_st hcell hkind hx ⟨⟨_, Heap.get?_push_size _ rfl, rfl, rfl⟩, ht.at fun o e => up _ o e⟩ (fun b hb => ?_)
    (F.keeps up) (N.grown up) (Nat.ne_of_lt F.ns.lt) (next_is_new F) (fun p hp => Nat.ne_of_lt (Heap.lt_size (N p hp).1)) S (R _ ⟨_, rfl⟩) ?_
  · show b < (s₁.heap.push _).objs.size
    rw [Heap.size_push]
    rcases List.mem_cons.mp hb with rfl | hb
    · exact Nat.lt_succ_self _
    · rw [List.mem_singleton.mp hb]; exact Nat.lt_succ_of_lt hlt
  · intro D C h tk m' ys news' F' N' o1 hn hC₀ hD₀ hCL hDL hCD offC fin
    refine ⟨m', hn, fun h'' hs'' => fin D h'' tk (F'.change hs'' hCL hC₀) (fun p hp => ?_) o1⟩
    refine ⟨hs''.extBut _ _ ?_ (N' p hp).1, (N' p hp).2⟩
    rcases List.mem_cons.mp hp with rfl | hp
    · exact Ne.symm hCD
    · exact offC p hp
theorem Assign_compTup {elt iter : Expr} {x y : Str} {px py : Pos} {scope : Scope} {cl : List (Str × Addr)} {pos spos : Pos} {Q : Flow → Shared → Prop} (F₀ : Fr h₀ L s.heap m) (hLe : env.locals = L)
    (hsw : swapsWith (.ListComp elt [⟨.Name x px, iter, [], 0⟩] scope pos) (some (.Name y py)) spos.line env = pure true)
    (hclos : closureFor scope env = pure cl) (hcell : ∀ z ∈ scope.names, z.2 ≠ .cell) (hkind : scope.kind = .function)
    (hnames : ∀ z ∈ scope.names, z.2 = .local → scope.names.lookup z.1 = some .local) (hx : scope.names.lookup x = some .local)
    (hy : env.kindOf y = some .local) (hp : (env.scope.kind == .class || (env.scope.kind == .module && env.locals != env.globals)) = false)
    (h : wpAny (model prog w) A (eval iter env) (TupSrc prog w A env.locals m env elt x scope cl (fun h₀ s₂ => LCg.FinA h₀ env.locals m s₂ y Q)) E s)
    (hs : ∀ x, foldedSetIterable iter env x = pure x := by intro _; rfl) :
    wpAny (model prog w) A (exec (.Assign [.Name y py] (.ListComp elt [⟨.Name x px, iter, [], 0⟩] scope pos) spos) env) Q E s := by
  subst hLe
  rw [exec_Assign_Name_used _ _ _ _ hsw]
  refine wpAny_bind (wpAny_standAt (wpAny_bind ?_))
  show wpAny _ A (do let _ ← comprehension (.ListComp elt [⟨.Name x px, iter, [], 0⟩] scope pos) scope env _ (newList []) false (eval iter env) (some (assign (.Name y py) env))) _ _ s
  refine wpAny_bind (wpAny_mono (wpAny_comprehension_free (use := some (assign (.Name y py) env)) (Q := fun _ s' => Q .next s') rfl hs hclos hkind hnames
    (wpAny_mono h (fun xv s₁ h₁ => ?_) fun _ _ e => e)) (fun _ s' hq => wpAny_pure (wpAny_pure hq)) fun _ _ e => e)
  obtain ⟨h₁, ax, its, news, rfl, hh, F, N, S, hsz, R⟩ := h₁
  have ht := S.tup N
  have hlt : ax < s₁.heap.objs.size := by obtain ⟨_, e, _⟩ := ht; exact Heap.lt_size e
  refine wpAny_pyIter_tuple ht ?_
  have up : ∀ b o, s₁.heap.get? b = some o → (s₁.heap.push { cls := .type "tuple_iterator", data := .fields #[.ref ax, .int 0 0] }).get? b = some o := fun b o e => Heap.get?_push_of_some _ e
  refine LCg.block_U (Walks.tuple hh s₁.heap.objs.size ax (Nat.ne_of_lt hlt) its) hsz (fun i h st => by obtain ⟨o, e, _⟩ := st.1; exact ⟨o, e⟩) tup_st hcell hkind hx ⟨⟨_, Heap.get?_push_size _ rfl, rfl, rfl⟩, ht.at fun o e => up _ o e⟩ (fun b hb => ?_)
    (F.keeps up) (N.grown up) (Nat.ne_of_lt F.ns.lt) (next_is_new F) (fun p hp => Nat.ne_of_lt (Heap.lt_size (N p hp).1)) S (R _ ⟨_, rfl⟩) ?_
  · show b < (s₁.heap.push _).objs.size
    rw [Heap.size_push]
    rcases List.mem_cons.mp hb with rfl | hb
    · exact Nat.lt_succ_self _
    · rw [List.mem_singleton.mp hb]; exact Nat.lt_succ_of_lt hlt
  · intro D C h' tk m' ys news' F' N' o1 hn hC₀ hD₀ hCL hDL hCD offC fin
    show wpAny _ A (assign (.Name y py) env (.ref D)) _ _ _
    refine wpAny_assign_Name (wpAny_storeName_local hy F'.ns (fun h₂ hn₂ hs₂ => ?_) hp)
    have hL₀ : h₁.get? env.locals = none := Heap.get?_none_of_le F'.above
    have F₂ : Fr h₁ env.locals h₂ (fun z => if z = y then some (.ref D) else m z) := ⟨hn₂, fun b o e => hs₂.extBut b o (fun q => by rw [q, hL₀] at e; cases e) (F'.keep b o e), F'.above⟩
    refine ⟨m', hn.sameBut hs₂ hCL, fun h'' hs'' => fin D h'' _ (F₂.change hs'' hCL hC₀) (fun p hp => ?_) o1⟩
    have z : h₂.get? p.1 = some p.2 := hs₂.extBut _ _ (N' p hp).2.1 (N' p hp).1
    refine ⟨hs''.extBut _ _ ?_ z, (N' p hp).2⟩
    rcases List.mem_cons.mp hp with rfl | hp
    · exact Ne.symm hCD
    · exact offC p hp
end
local macro_rules | `(tactic| walk_at "subscriptTail Name Constant ref int") => `(tactic| (k_here; (with_reducible show wpAny _ _ (subscriptTail _ _ (Value.ref _) (Value.int _ _)) _ _ _); k_dflt (refine listItem (by k_asm) (by k_mem) (by decide) (by decide) (by rfl) ?_); (try dsimp only)))
section
set_option maxRecDepth 100000 in
set_option maxHeartbeats 8000000 in
theorem cMade0 {w : World} {mean : ExcName → Option Value} {mg mb : Str → Option Value} {dp un : Nat} {gd : Option (List Code)} {cn : Str} {nm : List (Str × NameKind)} {ig ic : Bool} {mo : List (Str × Const)} {a : Addr} {ccd : Value} {cl : List (Str × Addr)} {outer : List Env} {A₀ : Around} {base h₀ : Heap} {L : Addr} {m : Str → Option Value} {news : List (Addr × Obj)} {s : Shared} {Q E : Value → Shared → Prop}
  (B : Below A₀ base outer h₀) (F : Fr h₀ L s.heap m) (X : (Mine.hd.heap_39 w.params).In h₀) (N : News h₀ L s.heap news) (T : Top topProg LOOSE mean mg mb h₀) (hdp : dp + 30 < recursionLimit) (hun : un + 100 < cLine) (XB : (Mine.hd.heap_39 w.params).In base) (TB : Top topProg LOOSE mean mg mb base) (D : KtsDicts (outer.filterMap (·.frame)) h₀)
  {l : Addr} {n : Nat} {y mo' d h mi sec : Int} {t1 t2 t3 t4 t5 t6 t0 : Tok} (hl : (l, ({ cls := .type "list", data := .seq #[.int y t1, .int mo' t2, .int d t3, .int h t4, .int mi t5, .int sec t6] n : Obj })) ∈ news) 
  (ok : okDay y mo' d → okTime h mi sec → ∀ l', ∀ h₁ h' tk', KtsTurn (outer.filterMap (·.frame)) h₀ h₁ → Fr h₁ L h' m → Below A₀ base outer h₁ → (Mine.hd.heap_39 w.params).In h₁ → Top topProg LOOSE mean mg mb h₁ → KtsDicts (outer.filterMap (·.frame)) h₁ → News h₁ L h' ((l', tupO [.int y t1, .int mo' t2, .int d t3, .int h t4, .int mi t5, .int sec t6]) :: news) → Q (.ref l') { s with heap := h', toks := tk' })
  (bad : ¬ (okDay y mo' d ∧ okTime h mi sec) → ∀ h₁ h' tk', KtsTurn (outer.filterMap (·.frame)) h₀ h₁ → Fr h₁ L h' m → Below A₀ base outer h₁ → (Mine.hd.heap_39 w.params).In h₁ → Top topProg LOOSE mean mg mb h₁ → KtsDicts (outer.filterMap (·.frame)) h₁ → News h₁ L h' news → Q .none { s with heap := h', toks := tk' })
  : wpAny (model PySem.Challenge.rw_jr0027_01.row.prog w) (aT none dp un gd cn ⟨.function, nm, ig, ic, mo⟩ L a ccd cl outer) (call (.ref 730) [.int 0 t0, .ref l]) Q E s := by
  have mkS : StopAt [38, 104] := ⟨⟩
  refine wpAny_call ?_
  (refine' code_defSE (binds := [((Str.ofString "way"), .int 0 t0), ((Str.ofString "numbers"), .ref l)]) ?k1 ?k2 ?k3 (fun p hp => N p (sub1L hl p hp)) (News.rest N) off_rest ?k5 ?XB ?TB ?D ?T0 ?kA ?k6 ?k7 ?k8 ?k9 ?kB ?_ ?cK ?c2 ?c3 ?c4 ?c5; (case kA => exact rfl); (case k2 => k_asm); (case k1 => k_asm); (case XB => assumption); (case TB => assumption); (case D => assumption); (case T0 => exact KtsTurn.refl); (case k3 => k_asm); (case k5 => k_asm); (case k6 => k_is); (case k7 => k_is); (case k8 => k_room); (case k9 => first | exact BindsTo.of_eq rfl | exact binds_K (by k_in) rfl (by k_is) rfl rfl rfl | fail "enterSE: no rule for these arguments"); (case kB => exact locs rfl); (case cK => exact rfl); (case c2 => exact rfl); (case c3 => exact rfl); (case c4 => exact rfl); (case c5 => decide); k_whole; intro g' L' h' FG' F' N' B' X' T' D'; (try dsimp only); (try k_lift B'); (try k_fold))
  k_steps
  repeat' (refine Later.mk ?_; (first | (k_here; (with_reducible show wpAny _ _ (call (Value.ref 104) [Value.int 1980 _, Value.int 1 _, Value.int 1 _]) _ _ _); k_dflt (refine' cDate0 ?z9B ?z9F ?z9X ?z9N ?z9T ?z9d ?_; (case z9B => k_asm); (case z9F => k_asm); (case z9X => k_asm); (case z9N => k_asm); (case z9T => k_asm); (case z9d => k_room); k_whole); intro x' d' k1' k2' k3' k4' k5' k6' t4' t5' t6' h' tk' F' N' l1 l2; (try k_lt l1); (try k_lt2 l2); (try k_sweep); (try dsimp only)) | (k_here; (with_reducible show wpAny _ _ (call (Value.ref 104) [Value.int _ _, Value.int _ _, Value.int _ _, Value.int _ _, Value.int _ _, Value.int _ _]) _ _ _); k_dflt (refine' cDate6 ?z9B ?z9F ?z9X ?z9N ?z9T ?z9d (fun hda' hok' x' d' k1' k2' k3' k4' k5' k6' h' tk' F' N' l1 l2 => ?_) (fun hnt' g' e' t' vs' h' tk' F' R' U' => ?_); (case z9B => k_asm); (case z9F => k_asm); (case z9X => k_asm); (case z9N => k_asm); (case z9T => k_asm); (case z9d => k_room); (all_goals k_whole)); (all_goals ((try k_lt l1); (try k_lt2 l2); (try k_sweep); (try (exact absurd ⟨by first | exact okDY _ | assumption, by first | exact okTH _ | exact okT0 | assumption⟩ hnt')); (try dsimp only)))) | (k_here; (with_reducible show wpAny _ _ (call (Value.ref 104) [Value.int _ _, Value.int _ _, Value.int _ _]) _ _ _); k_dflt (refine' cDate3 ?z9B ?z9F ?z9X ?z9N ?z9T ?z9d (fun hda' hok' x' d' k1' k2' k3' k4' k5' k6' h' tk' F' N' l1 l2 => ?_) (fun hnt' g' e' t' vs' h' tk' F' R' U' => ?_); (case z9B => k_asm); (case z9F => k_asm); (case z9X => k_asm); (case z9N => k_asm); (case z9T => k_asm); (case z9d => k_room); (all_goals k_whole)); (all_goals ((try k_lt l1); (try k_lt2 l2); (try k_sweep); (try (exact absurd ⟨by first | exact okDY _ | assumption, by first | exact okTH _ | exact okT0 | assumption⟩ hnt')); (try dsimp only)))) | (k_here; (with_reducible show wpAny _ _ (call (Value.ref 38) [Value.int 0 _, Value.int 0 _, Value.int 0 _]) _ _ _); k_dflt (refine' cDosTime0 ?z9B ?z9F ?z9X ?z9N ?z9T ?z9d ?_; (case z9B => k_asm); (case z9F => k_asm); (case z9X => k_asm); (case z9N => k_asm); (case z9T => k_asm); (case z9d => k_room); k_whole); intro x' d' k1' k2' k3' h' tk' F' N' l1 l2; (try k_lt l1); (try k_lt2 l2); (try k_sweep); (try dsimp only)) | (k_here; (with_reducible show wpAny _ _ (call (Value.ref 38) _) _ _ _); k_dflt (refine' cDosTime ?z9B ?z9F ?z9X ?z9N ?z9T ?z9d (fun hok' x' d' k1' k2' k3' h' tk' F' N' l1 l2 => ?_) (fun hnt' g' e' t' vs' h' tk' F' R' U' => ?_); (case z9B => k_asm); (case z9F => k_asm); (case z9X => k_asm); (case z9N => k_asm); (case z9T => k_asm); (case z9d => k_room); (all_goals k_whole)); (all_goals ((try k_lt l1); (try k_lt2 l2); (try k_sweep); (try dsimp only))))); k_steps)
  all_goals (
    (with_reducible rename News _ _ _ (_ :: _) => kN9)
    first
      | (refine' ok (by assumption) (by assumption) _ _ _ _ ?z9t ?z9f ?z9b ?z9i ?z9o ?z9k (News.app (News.drop9 ?z9n (subC ?z9a subNil)) ?z9r); (case z9n => exact kN9); (case z9a => k_mem); (case z9f => assumption); (case z9b => assumption); (case z9i => assumption); (case z9o => assumption); (case z9k => assumption); (case z9t => first | assumption | exact KtsTurn.refl); (case z9r => exact News.whole N (sub1L hl) (News.drop9 kN9 (sub1L (by k_mem))) (by first | assumption | exact News.turn9 (by assumption) (by assumption))))
      | (refine' bad (by assumption) _ _ _ ?z9t ?z9f ?z9b ?z9i ?z9o ?z9k ?z9r; (case z9f => assumption); (case z9b => assumption); (case z9i => assumption); (case z9o => assumption); (case z9k => assumption); (case z9t => first | assumption | exact KtsTurn.refl); (case z9r => exact News.whole N (sub1L hl) (News.drop9 kN9 (sub1L (by k_mem))) (by first | assumption | exact News.turn9 (by assumption) (by assumption)))))
set_option maxRecDepth 100000 in
set_option maxHeartbeats 8000000 in
theorem cMade1 {w : World} {mean : ExcName → Option Value} {mg mb : Str → Option Value} {dp un : Nat} {gd : Option (List Code)} {cn : Str} {nm : List (Str × NameKind)} {ig ic : Bool} {mo : List (Str × Const)} {a : Addr} {ccd : Value} {cl : List (Str × Addr)} {outer : List Env} {A₀ : Around} {base h₀ : Heap} {L : Addr} {m : Str → Option Value} {news : List (Addr × Obj)} {s : Shared} {Q E : Value → Shared → Prop}
  (B : Below A₀ base outer h₀) (F : Fr h₀ L s.heap m) (X : (Mine.hd.heap_39 w.params).In h₀) (N : News h₀ L s.heap news) (T : Top topProg LOOSE mean mg mb h₀) (hdp : dp + 30 < recursionLimit) (hun : un + 100 < cLine) (XB : (Mine.hd.heap_39 w.params).In base) (TB : Top topProg LOOSE mean mg mb base) (D : KtsDicts (outer.filterMap (·.frame)) h₀)
  {l : Addr} {n : Nat} {y mo' d h mi sec : Int} {t1 t2 t3 t4 t5 t6 t0 : Tok} (hl : (l, ({ cls := .type "list", data := .seq #[.int y t1, .int mo' t2, .int d t3, .int h t4, .int mi t5, .int sec t6] n : Obj })) ∈ news) 
  (ok : okTime h mi sec → ∀ l', ∀ h₁ h' tk', KtsTurn (outer.filterMap (·.frame)) h₀ h₁ → Fr h₁ L h' m → Below A₀ base outer h₁ → (Mine.hd.heap_39 w.params).In h₁ → Top topProg LOOSE mean mg mb h₁ → KtsDicts (outer.filterMap (·.frame)) h₁ → News h₁ L h' ((l', tupO [.int h t4, .int mi t5, .int sec t6]) :: news) → Q (.ref l') { s with heap := h', toks := tk' })
  (bad : ¬ okTime h mi sec → ∀ h₁ h' tk', KtsTurn (outer.filterMap (·.frame)) h₀ h₁ → Fr h₁ L h' m → Below A₀ base outer h₁ → (Mine.hd.heap_39 w.params).In h₁ → Top topProg LOOSE mean mg mb h₁ → KtsDicts (outer.filterMap (·.frame)) h₁ → News h₁ L h' news → Q .none { s with heap := h', toks := tk' })
  : wpAny (model PySem.Challenge.rw_jr0027_01.row.prog w) (aT none dp un gd cn ⟨.function, nm, ig, ic, mo⟩ L a ccd cl outer) (call (.ref 730) [.int 1 t0, .ref l]) Q E s := by
  have mkS : StopAt [38, 104] := ⟨⟩
  refine wpAny_call ?_
  (refine' code_defSE (binds := [((Str.ofString "way"), .int 1 t0), ((Str.ofString "numbers"), .ref l)]) ?k1 ?k2 ?k3 (fun p hp => N p (sub1L hl p hp)) (News.rest N) off_rest ?k5 ?XB ?TB ?D ?T0 ?kA ?k6 ?k7 ?k8 ?k9 ?kB ?_ ?cK ?c2 ?c3 ?c4 ?c5; (case kA => exact rfl); (case k2 => k_asm); (case k1 => k_asm); (case XB => assumption); (case TB => assumption); (case D => assumption); (case T0 => exact KtsTurn.refl); (case k3 => k_asm); (case k5 => k_asm); (case k6 => k_is); (case k7 => k_is); (case k8 => k_room); (case k9 => first | exact BindsTo.of_eq rfl | exact binds_K (by k_in) rfl (by k_is) rfl rfl rfl | fail "enterSE: no rule for these arguments"); (case kB => exact locs rfl); (case cK => exact rfl); (case c2 => exact rfl); (case c3 => exact rfl); (case c4 => exact rfl); (case c5 => decide); k_whole; intro g' L' h' FG' F' N' B' X' T' D'; (try dsimp only); (try k_lift B'); (try k_fold))
  k_steps
  repeat' (refine Later.mk ?_; (first | (k_here; (with_reducible show wpAny _ _ (call (Value.ref 104) [Value.int 1980 _, Value.int 1 _, Value.int 1 _]) _ _ _); k_dflt (refine' cDate0 ?z9B ?z9F ?z9X ?z9N ?z9T ?z9d ?_; (case z9B => k_asm); (case z9F => k_asm); (case z9X => k_asm); (case z9N => k_asm); (case z9T => k_asm); (case z9d => k_room); k_whole); intro x' d' k1' k2' k3' k4' k5' k6' t4' t5' t6' h' tk' F' N' l1 l2; (try k_lt l1); (try k_lt2 l2); (try k_sweep); (try dsimp only)) | (k_here; (with_reducible show wpAny _ _ (call (Value.ref 104) [Value.int _ _, Value.int _ _, Value.int _ _, Value.int _ _, Value.int _ _, Value.int _ _]) _ _ _); k_dflt (refine' cDate6 ?z9B ?z9F ?z9X ?z9N ?z9T ?z9d (fun hda' hok' x' d' k1' k2' k3' k4' k5' k6' h' tk' F' N' l1 l2 => ?_) (fun hnt' g' e' t' vs' h' tk' F' R' U' => ?_); (case z9B => k_asm); (case z9F => k_asm); (case z9X => k_asm); (case z9N => k_asm); (case z9T => k_asm); (case z9d => k_room); (all_goals k_whole)); (all_goals ((try k_lt l1); (try k_lt2 l2); (try k_sweep); (try (exact absurd ⟨by first | exact okDY _ | assumption, by first | exact okTH _ | exact okT0 | assumption⟩ hnt')); (try dsimp only)))) | (k_here; (with_reducible show wpAny _ _ (call (Value.ref 104) [Value.int _ _, Value.int _ _, Value.int _ _]) _ _ _); k_dflt (refine' cDate3 ?z9B ?z9F ?z9X ?z9N ?z9T ?z9d (fun hda' hok' x' d' k1' k2' k3' k4' k5' k6' h' tk' F' N' l1 l2 => ?_) (fun hnt' g' e' t' vs' h' tk' F' R' U' => ?_); (case z9B => k_asm); (case z9F => k_asm); (case z9X => k_asm); (case z9N => k_asm); (case z9T => k_asm); (case z9d => k_room); (all_goals k_whole)); (all_goals ((try k_lt l1); (try k_lt2 l2); (try k_sweep); (try (exact absurd ⟨by first | exact okDY _ | assumption, by first | exact okTH _ | exact okT0 | assumption⟩ hnt')); (try dsimp only)))) | (k_here; (with_reducible show wpAny _ _ (call (Value.ref 38) [Value.int 0 _, Value.int 0 _, Value.int 0 _]) _ _ _); k_dflt (refine' cDosTime0 ?z9B ?z9F ?z9X ?z9N ?z9T ?z9d ?_; (case z9B => k_asm); (case z9F => k_asm); (case z9X => k_asm); (case z9N => k_asm); (case z9T => k_asm); (case z9d => k_room); k_whole); intro x' d' k1' k2' k3' h' tk' F' N' l1 l2; (try k_lt l1); (try k_lt2 l2); (try k_sweep); (try dsimp only)) | (k_here; (with_reducible show wpAny _ _ (call (Value.ref 38) _) _ _ _); k_dflt (refine' cDosTime ?z9B ?z9F ?z9X ?z9N ?z9T ?z9d (fun hok' x' d' k1' k2' k3' h' tk' F' N' l1 l2 => ?_) (fun hnt' g' e' t' vs' h' tk' F' R' U' => ?_); (case z9B => k_asm); (case z9F => k_asm); (case z9X => k_asm); (case z9N => k_asm); (case z9T => k_asm); (case z9d => k_room); (all_goals k_whole)); (all_goals ((try k_lt l1); (try k_lt2 l2); (try k_sweep); (try dsimp only))))); k_steps)
  all_goals (
    (with_reducible rename News _ _ _ (_ :: _) => kN9)
    first
      | (refine' ok (by assumption) _ _ _ _ ?z9t ?z9f ?z9b ?z9i ?z9o ?z9k (News.app (News.drop9 ?z9n (subC ?z9a subNil)) ?z9r); (case z9n => exact kN9); (case z9a => k_mem); (case z9f => assumption); (case z9b => assumption); (case z9i => assumption); (case z9o => assumption); (case z9k => assumption); (case z9t => first | assumption | exact KtsTurn.refl); (case z9r => exact News.whole N (sub1L hl) (News.drop9 kN9 (sub1L (by k_mem))) (by first | assumption | exact News.turn9 (by assumption) (by assumption))))
      | (refine' bad (by assumption) _ _ _ ?z9t ?z9f ?z9b ?z9i ?z9o ?z9k ?z9r; (case z9f => assumption); (case z9b => assumption); (case z9i => assumption); (case z9o => assumption); (case z9k => assumption); (case z9t => first | assumption | exact KtsTurn.refl); (case z9r => exact News.whole N (sub1L hl) (News.drop9 kN9 (sub1L (by k_mem))) (by first | assumption | exact News.turn9 (by assumption) (by assumption)))))
end
section
set_option maxRecDepth 100000 in
set_option maxHeartbeats 8000000 in
theorem cLawWide {w : World} {mean : ExcName → Option Value} {mg mb : Str → Option Value} {dp un : Nat} {gd : Option (List Code)} {cn : Str} {nm : List (Str × NameKind)} {ig ic : Bool} {mo : List (Str × Const)} {a : Addr} {ccd : Value} {cl : List (Str × Addr)} {outer : List Env} {A₀ : Around} {base h₀ : Heap} {L : Addr} {m : Str → Option Value} {news : List (Addr × Obj)} {s : Shared} {Q E : Value → Shared → Prop}
  (B : Below A₀ base outer h₀) (F : Fr h₀ L s.heap m) (X : (Mine.hd.heap_39 w.params).In h₀) (N : News h₀ L s.heap news) (T : Top topProg LOOSE mean mg mb h₀) (hdp : dp + 12 < recursionLimit)
  {n many by' : Int} {t0 t1 t2 : Tok} 
  (ok : ∀ (x : Int) (t : Tok) h' tk', Fr h₀ L h' m → News h₀ L h' news → Q (.int x t) { s with heap := h', toks := tk' })
  : wpAny (model PySem.Challenge.rw_jr0027_01.row.prog w) (aT none dp un gd cn ⟨.function, nm, ig, ic, mo⟩ L a ccd cl outer) (call (.ref 723) [.int n t0, .int many t1, .int by' t2]) Q E s := by
  refine wpAny_call ?_
  (refine' code_defE (binds := [((Str.ofString "n"), .int n t0), ((Str.ofString "many"), .int many t1), ((Str.ofString "by"), .int by' t2)]) ?k1 ?k2 ?k3 News.nil9 ?k4 offNil ?k5 ?kA ?k6 ?k7 ?k8 ?k9 ?kB ?_ ?cK ?c2 ?c3 ?c4 ?c5; (case kA => exact rfl); (case k1 => k_asm); (case k2 => k_asm); (case k3 => k_asm); (case k4 => k_asm); (case k5 => k_asm); (case k6 => k_is); (case k7 => k_is); (case k8 => k_room); (case k9 => first | exact BindsTo.of_eq rfl | exact binds_K (by k_in) rfl (by k_is) rfl rfl rfl | fail "enterE: no rule for these arguments"); (case kB => exact locs rfl); (case cK => exact rfl); (case c2 => exact rfl); (case c3 => exact rfl); (case c4 => exact rfl); (case c5 => decide); k_whole; intro g' L' h' FG' F' N' B' X' T'; (try dsimp only); (try k_lift B'); (try k_fold))
  k_steps
  all_goals exact ok _ _ _ _ (by assumption) (by assumption)
end
section
theorem dec3 {z m d A B : Int} (hA : 0 < A) (hB : 0 < B) (hm : 0 ≤ m ∧ m < B) (hd : 0 ≤ d ∧ d < A) {X : Int} (hX : X = (z * B + m) * A + d) : X / (A * B) = z ∧ X / A % B = m ∧ X % A = d := by
  have q2 := divU (a := X) (q := z * B + m) hA (by rw [hX, Int.add_comm, Int.mul_comm A]) hd.1 hd.2
  have q3 := divU (a := z * B + m) (q := z) hB (by rw [Int.add_comm, Int.mul_comm B]) hm.1 hm.2
  refine ⟨?_, ?_, q2.2⟩
  · rw [← Int.ediv_ediv_of_nonneg (Int.le_of_lt hA), q2.1, q3.1]
  · rw [q2.1, q3.2]
theorem ltBnd {z m d A B Z : Int} (hA : 0 < A) (hB : 0 < B) (hm : m < B) (hd : d < A) (hz : z < Z) : (z * B + m) * A + d < Z * B * A := by
  have h1 : z * B + m < Z * B := Int.lt_of_lt_of_le (Int.add_lt_add_left hm _) (by rw [show z * B + B = (z + 1) * B from by rw [Int.add_mul, Int.one_mul]]; exact Int.mul_le_mul_of_nonneg_right hz (Int.le_of_lt hB))
  exact Int.lt_of_lt_of_le (Int.add_lt_add_left hd _) (by rw [show ∀ k : Int, k * A + A = (k + 1) * A from fun k => by rw [Int.add_mul, Int.one_mul]]; exact Int.mul_le_mul_of_nonneg_right h1 (Int.le_of_lt hA))
theorem decD {y m d : Int} (hy : 1980 ≤ y ∧ y ≤ 2107) (ho : okDay y m d) : dY ((y - 1980) * 512 + m * 32 + d) = y ∧ dM ((y - 1980) * 512 + m * 32 + d) = m ∧ dD ((y - 1980) * 512 + m * 32 + d) = d ∧ 0 ≤ (y - 1980) * 512 + m * 32 + d ∧ (y - 1980) * 512 + m * 32 + d < 65536 := by
  have e : (y - 1980) * 512 + m * 32 + d = ((y - 1980) * 16 + m) * 32 + d := by rw [Int.add_mul, Int.mul_assoc]; rfl
  have m3 : 0 ≤ m := Int.le_trans (by decide) ho.2.2.1
  have m4 : m < 16 := Int.lt_of_le_of_lt ho.2.2.2.1 (by decide)
  have d3 : 0 ≤ d := Int.le_trans (by decide) ho.2.2.2.2.1
  have d4 : d < 32 := Int.lt_of_le_of_lt ho.2.2.2.2.2.1 (by decide)
  have z0 : 0 ≤ y - 1980 := Int.sub_nonneg_of_le hy.1
  have z1 : y - 1980 < 128 := Int.lt_of_le_of_lt (Int.sub_le_sub_right hy.2 1980) (by decide)
  obtain ⟨q1, q2, q3⟩ := dec3 (A := 32) (B := 16) (by decide) (by decide) ⟨m3, m4⟩ ⟨d3, d4⟩ e
  have q1 : 1980 + ((y - 1980) * 512 + m * 32 + d) / 512 = y := by rw [show ((y - 1980) * 512 + m * 32 + d) / 512 = _ from q1, Int.add_comm, Int.sub_add_cancel]
  have hz : dOK ((y - 1980) * 512 + m * 32 + d) := by unfold dOK; rw [q1, q2, q3]; exact ho
  refine ⟨?_, ?_, ?_, Int.add_nonneg (Int.add_nonneg (Int.mul_nonneg z0 (by decide)) (Int.mul_nonneg m3 (by decide))) d3, e ▸ ltBnd (Z := 128) (by decide) (by decide) m4 d4 z1⟩
  · simp only [dY, if_pos hz]; exact q1
  · simp only [dM, if_pos hz]; exact q2
  · simp only [dD, if_pos hz]; exact q3
theorem decT {h mi s : Int} (ho : okTime h mi s) : tH (h * 2048 + mi * 32 + s.fdiv 2) = h ∧ tM (h * 2048 + mi * 32 + s.fdiv 2) = mi ∧ tS (h * 2048 + mi * 32 + s.fdiv 2) = s - s.fmod 2 ∧ 0 ≤ h * 2048 + mi * 32 + s.fdiv 2 ∧ h * 2048 + mi * 32 + s.fdiv 2 < 65536 := by
  rw [Int.fdiv_eq_ediv_of_nonneg _ (by decide), fmE _ _ (by decide)]
  obtain ⟨h0, h1, m0, m1, s0, s1⟩ := id ho
  have c0 : 0 ≤ s / 2 := Int.ediv_nonneg s0 (by decide)
  have c1 : s / 2 < 30 := Int.ediv_lt_of_lt_mul (by decide) (Int.lt_of_le_of_lt s1 (by decide))
  have e2 : s / 2 * 2 = s - s % 2 := by rw [Int.emod_def, Int.sub_sub_self, Int.mul_comm]
  generalize s / 2 = c at c0 c1 e2 ⊢
  have e : h * 2048 + mi * 32 + c = (h * 64 + mi) * 32 + c := by rw [Int.add_mul, Int.mul_assoc]; rfl
  obtain ⟨q1, q2, q3⟩ := dec3 (A := 32) (B := 64) (by decide) (by decide) ⟨m0, Int.lt_of_le_of_lt m1 (by decide)⟩ ⟨c0, Int.lt_trans c1 (by decide)⟩ e
  have q1 : (h * 2048 + mi * 32 + c) / 2048 = h := q1
  have hz : tOK (h * 2048 + mi * 32 + c) := by unfold tOK; rw [q1, q2, q3]; exact ⟨h0, h1, m0, m1, Int.mul_nonneg c0 (by decide), Int.le_trans (Int.mul_le_mul_of_nonneg_right (Int.le_of_lt_add_one c1 : c ≤ 29) (by decide)) (by decide)⟩
  refine ⟨?_, ?_, ?_, Int.add_nonneg (Int.add_nonneg (Int.mul_nonneg h0 (by decide)) (Int.mul_nonneg m0 (by decide))) c0, Int.lt_trans (e ▸ ltBnd (Z := 24) (by decide) (by decide) (Int.lt_of_le_of_lt m1 (by decide)) (Int.lt_trans c1 (by decide)) (Int.lt_of_le_of_lt h1 (by decide))) (by decide)⟩
  · simp only [tH, if_pos hz]; exact q1
  · simp only [tM, if_pos hz]; exact q2
  · simp only [tS, if_pos hz]; rw [q3, e2]
set_option maxRecDepth 100000 in
set_option maxHeartbeats 8000000 in
theorem cFatKw {w : World} {mean : ExcName → Option Value} {mg mb : Str → Option Value} {dp un : Nat} {gd : Option (List Code)} {cn : Str} {nm : List (Str × NameKind)} {ig ic : Bool} {mo : List (Str × Const)} {a : Addr} {ccd : Value} {cl : List (Str × Addr)} {outer : List Env} {A₀ : Around} {base h₀ : Heap} {L : Addr} {m : Str → Option Value} {news : List (Addr × Obj)} {s : Shared} {Q E : Value → Shared → Prop}
  (B : Below A₀ base outer h₀) (F : Fr h₀ L s.heap m) (X : (Mine.hd.heap_39 w.params).In h₀) (N : News h₀ L s.heap news) (T : Top topProg LOOSE mean mg mb h₀) (hdp : dp + 12 < recursionLimit)
  {v ve : Value} {ct cd ad wt wd : Int} {t1 t2 t3 t4 t5 t6 t7 t8 t9 t10 t11 : Tok} 
  (ok : ∀ x' d' ld k1 k2 k3 k4 k5 k6 k7 k8 k9 k10 k11 k12 k13 k14 k15 k16 k17 k18 h' tk', Fr h₀ L h' m → News h₀ L h' ((x', instObj 595 d') :: (d', fatD w k1 k2 k3 k4 k5 k6 k7 k8 k9 k10 k11 k12 k13 k14 k15 k16 k17 k18 (v) (.int 0 t1) (.int 0 t2) (.int 0 t3) (.int ct t4) (.int cd t5) (.int ad t6) (.int 0 t7) (.int wt t8) (.int wd t9) (.int 0 t10) (.int 0 t11) (.bool false) (.none) (.none) (.none) (.ref ld) (ve)) :: news) → (∀ p ∈ news, p.1 < d') → d' < x' → Q (.ref x') { s with heap := h', toks := tk' })
  : wpAny (model PySem.Challenge.rw_jr0027_01.row.prog w) (aT none dp un gd cn ⟨.function, nm, ig, ic, mo⟩ L a ccd cl outer) (call (.ref 595) [] [(Str.ofString "DIR_Name", v), (Str.ofString "DIR_Attr", .int 0 t1), (Str.ofString "DIR_NTRes", .int 0 t2), (Str.ofString "DIR_CrtTimeTenth", .int 0 t3), (Str.ofString "DIR_CrtTime", .int ct t4), (Str.ofString "DIR_CrtDate", .int cd t5), (Str.ofString "DIR_LstAccessDate", .int ad t6), (Str.ofString "DIR_FstClusHI", .int 0 t7), (Str.ofString "DIR_WrtTime", .int wt t8), (Str.ofString "DIR_WrtDate", .int wd t9), (Str.ofString "DIR_FstClusLO", .int 0 t10), (Str.ofString "DIR_FileSize", .int 0 t11), (Str.ofString "encoding", ve)]) Q E s := by
  refine' cFat B F X N T hdp ?z9f ?z9h ok
  (case z9f => k_is)
  (case z9h => exact (fun s9 x9 X9 => kp_binds X9 (fun S => by kernel_rfl)))
set_option maxRecDepth 100000 in
set_option maxHeartbeats 8000000 in
theorem cNew {w : World} {mean : ExcName → Option Value} {mg mb : Str → Option Value} {dp un : Nat} {gd : Option (List Code)} {cn : Str} {nm : List (Str × NameKind)} {ig ic : Bool} {mo : List (Str × Const)} {a : Addr} {ccd : Value} {cl : List (Str × Addr)} {outer : List Env} {A₀ : Around} {base h₀ : Heap} {L : Addr} {m : Str → Option Value} {news : List (Addr × Obj)} {s : Shared} {Q E : Value → Shared → Prop}
  (B : Below A₀ base outer h₀) (F : Fr h₀ L s.heap m) (X : (Mine.hd.heap_39 w.params).In h₀) (N : News h₀ L s.heap news) (T : Top topProg LOOSE mean mg mb h₀) (hdp : dp + 30 < recursionLimit)
  {v ve : Value} {x1 d1 : Addr} {o : Obj} {y mo' d h mi sec : Int} (hx : (x1, instObj 104 d1) ∈ news) (hd : (d1, o) ∈ news) (ho9 : IsDate w o y mo' d h mi sec) (hy : 1980 ≤ y ∧ y ≤ 2107) (ho : okDay y mo' d) (hk : okTime h mi sec)
  (ok : ∀ x' d' o', IsFat w o' (h * 2048 + mi * 32 + sec.fdiv 2) ((y - 1980) * 512 + mo' * 32 + d) ((y - 1980) * 512 + mo' * 32 + d) (h * 2048 + mi * 32 + sec.fdiv 2) ((y - 1980) * 512 + mo' * 32 + d) → ∀ h' tk', Fr h₀ L h' m → News h₀ L h' ((x', instObj 595 d') :: (d', o') :: news) → Q (.ref x') { s with heap := h', toks := tk' })
  : wpAny (model PySem.Challenge.rw_jr0027_01.row.prog w) (aT none dp un gd cn ⟨.function, nm, ig, ic, mo⟩ L a ccd cl outer) (call (.ref 340) [v, .ref x1, ve]) Q E s := by
  have mkS : StopAt [74, 81, 595] := ⟨⟩
  have mkM : CutH := ⟨⟩
  have hb1 := ho
  have hb2 := hk
  simp only [okDay] at hb1
  simp only [okTime] at hb2
  have h1980 : 0 ≤ y - 1980 := by omega
  refine wpAny_call ?_
  (refine' code_defE (binds := [((Str.ofString "name"), v), ((Str.ofString "tz"), .ref x1), ((Str.ofString "encoding"), ve), ((Str.ofString "attr"), .int 0 786), ((Str.ofString "ntres"), .int 0 787), ((Str.ofString "cluster"), .int 0 788), ((Str.ofString "filesize"), .int 0 789)]) ?k1 ?k2 ?k3 (fun p hp => N p (sub2 hx hd p hp)) (News.rest N) off_rest ?k5 ?kA ?k6 ?k7 ?k8 ?k9 ?kB ?_ ?cK ?c2 ?c3 ?c4 ?c5; (case kA => exact rfl); (case k1 => k_asm); (case k2 => k_asm); (case k3 => k_asm); (case k5 => k_asm); (case k6 => k_is); (case k7 => k_is); (case k8 => k_room); (case k9 => first | exact BindsTo.of_eq rfl | exact binds_K (by k_in) rfl (by k_is) rfl rfl rfl | fail "enterE: no rule for these arguments"); (case kB => exact locs rfl); (case cK => exact rfl); (case c2 => exact rfl); (case c3 => exact rfl); (case c4 => exact rfl); (case c5 => decide); k_whole; intro g' L' h' FG' F' N' B' X' T'; (try dsimp only); (try k_lift B'); (try k_fold))
  k_steps
  repeat' (refine Later.mk ?_; (first | ((with_reducible show wpAny _ _ (getMethod _ (PySem.Str.ofString "serialize_date") _) _ _ _); k_dflt (refine gSerD (by k_asm) (by k_asm) (by k_asm) (by k_mem) (by k_mem) (by assumption) ?_); (try dsimp only)) | ((with_reducible show wpAny _ _ (getMethod _ (PySem.Str.ofString "serialize_time") _) _ _ _); k_dflt (refine gSerT (by k_asm) (by k_asm) (by k_asm) (by k_mem) (by k_mem) (by assumption) ?_); (try dsimp only)) | (k_dflt (refine method_inst (by k_asm) (by k_asm) (by k_inst) (by k_is) (by k_is) (by k_is) (by k_get) ?_); (try dsimp only)) | (k_dflt (refine method_of_cls (by k_asm) (by k_asm) (by k_is) ?_); (try dsimp only)) | (k_here; (with_reducible show wpAny _ _ (call (Value.ref 81) _) _ _ _); k_dflt (refine cSerT (by k_asm) (by k_asm) (by k_asm) (by k_asm) (by k_asm) (by k_room) (by k_mem) (by k_mem) (by assumption) (by omega) (by omega) (by omega) (fun t' h' tk' F' N' => ?_)); (try k_sweep); (try dsimp only)) | (k_here; (with_reducible show wpAny _ _ (call (Value.ref 74) _) _ _ _); k_dflt (refine cSerD (by k_asm) (by k_asm) (by k_asm) (by k_asm) (by k_asm) (by k_room) (by k_mem) (by k_mem) (by assumption) (by omega) (by omega) (by omega) (fun t' h' tk' F' N' => ?_)); (try k_sweep); (try dsimp only)) | (k_here; (with_reducible show wpAny _ _ (call (Value.ref 595) _ _) _ _ _); k_dflt (refine' cFatKw ?z9B ?z9F ?z9X ?z9N ?z9T ?z9d ?_; (case z9B => k_asm); (case z9F => k_asm); (case z9X => k_asm); (case z9N => k_asm); (case z9T => k_asm); (case z9d => k_room); k_whole); intro x' d' ld' k1' k2' k3' k4' k5' k6' k7' k8' k9' k10' k11' k12' k13' k14' k15' k16' k17' k18' h' tk' F' N' l1 l2; (try k_lt l1); (try k_lt2 l2); (try k_sweep); (try dsimp only))); k_steps)
  (with_reducible rename News h₀ _ _ (_ :: _) => kN9)
  exact ok _ _ _ ⟨_, _, _, _, _, _, _, _, _, _, _, _, _, _, _, _, _, _, _, _, _, _, _, _, _, _, _, _, _, _, _, _, rfl⟩ _ _ (by assumption) (News.app (a := [_, _]) (News.drop9 kN9 (subC (by k_mem) (subC (by k_mem) subNil))) (News.whole N (sub2 hx hd) (News.drop9 kN9 (sub2 (by k_mem) (by k_mem))) (by assumption)))
end
local macro_rules | `(tactic| walk_at "CompRest") => `(tactic| (with_unfolding_all first
  | (refine LCg.CompRest.succ ?_; intro v' I' oI' C' oC' D' m' h' tk' E' hv' hC' hx' F' N' off' ne'; (first | lcg_open hv' | (obtain ⟨t9', hv9'⟩ := hv'; subst hv9')))
  | refine LCg.CompRest.zero ?_))
local macro_rules | `(tactic| lcg_off) => `(tactic| first | exact True.intro | assumption | (refine And.intro ⟨by k_ne, by k_ne, by k_ne⟩ ?_; lcg_off))
section
local macro_rules | `(tactic| walk_at "exec Assign cons ListComp") => `(tactic| (refine stopL ?_))
local macro_rules | `(tactic| walk_at "eval ListComp") => `(tactic| (refine stopL ?_))
local macro_rules | `(tactic| walk_at "TupSrc") => `(tactic| (refine stopL ?_))
local macro_rules | `(tactic| walk_at "compareOp Eq ref ref") => `(tactic| (refine stopL ?_))
set_option maxRecDepth 100000 in
set_option maxHeartbeats 8000000 in
theorem cLawEntry {w : World} {mean : ExcName → Option Value} {mg mb : Str → Option Value} {dp un : Nat} {cn : Str} {nm : List (Str × NameKind)} {ig ic : Bool} {mo : List (Str × Const)} {a : Addr} {ccd : Value} {cl : List (Str × Addr)} {outer : List Env} {A₀ : Around} {base h₀ : Heap} {L : Addr} {m : Str → Option Value} {news : List (Addr × Obj)} {s : Shared} {Q : Value → Shared → Prop}
  (B : Below A₀ base outer h₀) (F : Fr h₀ L s.heap m) (X : (Mine.hd.heap_39 w.params).In h₀) (T : Top topProg LOOSE mean mg mb h₀) (hdp : dp + 60 < recursionLimit) (hun : un + 400 < cLine) (XB : (Mine.hd.heap_39 w.params).In base) (TB : Top topProg LOOSE mean mg mb base) (D : KtsDicts (outer.filterMap (·.frame)) h₀)
  {v : Int} {t0 : Tok} (N : News h₀ L s.heap news) (hv0 : 0 ≤ v) (hv1 : v < 65600)
  (ok : ∀ h₁ h' tk', KtsTurn (outer.filterMap (·.frame)) h₀ h₁ → Fr h₁ L h' m → Below A₀ base outer h₁ → (Mine.hd.heap_39 w.params).In h₁ → Top topProg LOOSE mean mg mb h₁ → KtsDicts (outer.filterMap (·.frame)) h₁ → News h₁ L h' news → Q (.bool true) { s with heap := h', toks := tk' })
  : wpG (model PySem.Challenge.rw_jr0027_01.row.prog w) (aT none dp un (some []) cn ⟨.function, nm, ig, ic, mo⟩ L a ccd cl outer) (call (.ref 742) [.int v t0]) Q s := by
  have mkS : StopAt [350, 357, 364, 595, 702, 709, 716] := ⟨⟩
  have mkM : CutH := ⟨⟩
  refine wpG.call ?_
  (refine' code_defGSC (binds := [((Str.ofString "word"), .int v t0)]) ?k1 ?k2 ?k3 News.nil9 ?k4 offNil ?k5 ?XB ?TB ?D ?T0 ?kA ?k6 ?k7 ?k8 ?k9 ?kB ?kD ?_ ?cK ?c2 ?c3 ?c4; (case kA => exact rfl); (case k2 => k_asm); (case k1 => k_asm); (case XB => assumption); (case TB => assumption); (case D => assumption); (case T0 => exact KtsTurn.refl); (case k3 => k_asm); (case k4 => k_asm); (case k5 => k_asm); (case k6 => k_is); (case k7 => k_is); (case k8 => k_room); (case k9 => first | exact BindsTo.of_eq rfl | exact binds_K (by k_in) rfl (by k_is) rfl rfl rfl | fail "enterGSC: no rule for these arguments"); (case kB => exact rfl); (case kD => decide +kernel); (case cK => exact rfl); (case c2 => exact rfl); (case c3 => exact rfl); (case c4 => exact rfl); k_whole; intro g' L' h' tk' cells' FG' F' N' Y' B' X' T' D' l1; (try k_lt l1); k_cells Y'; (try simp only [List.cons_append, List.nil_append] at N'); (try dsimp only); (try k_lift B'); (try k_fold))
  refine wpG.named fun Q9 hQ9 => ?_
  refine wpG.group (l₁ := [_, _]) ?_
  k_steps
  repeat' (refine Later.mk ?_; (first | ((with_reducible show wpAny _ _ (getMethod _ (PySem.Str.ofString "get_ctime") _) _ _ _); k_dflt (refine gCt (by k_asm) (by k_asm) (by k_asm) (by k_mem) (by k_mem) (by assumption) ?_); (try dsimp only)) | ((with_reducible show wpAny _ _ (getMethod _ (PySem.Str.ofString "get_mtime") _) _ _ _); k_dflt (refine gMt (by k_asm) (by k_asm) (by k_asm) (by k_mem) (by k_mem) (by assumption) ?_); (try dsimp only)) | ((with_reducible show wpAny _ _ (getMethod _ (PySem.Str.ofString "get_atime") _) _ _ _); k_dflt (refine gAt (by k_asm) (by k_asm) (by k_asm) (by k_mem) (by k_mem) (by assumption) ?_); (try dsimp only)) | (k_here; (with_reducible show wpAny _ _ (compareOp CmpOp.Eq (Value.ref _) (Value.ref _)) _ _ _); k_dflt (refine eq_dataH (by ke_read) (by ke_read) (by (simp [SeqAt.shaped, PyData.canLay0, PyData.canLayAll0, PyData.depth, PyData.depthAll]; done)) (by (simp [SeqAt.shaped, PyData.canLay0, PyData.canLayAll0, PyData.depth, PyData.depthAll]; done)) (by ke_room) ?_); (simp only [PyData.eqv, PyData.eqvAll, beq_self_eq_true, Bool.and_true])) | (k_here; (with_reducible show TupSrc _ _ _ _ _ _ (Expr.BinOp _ _ _ _) _ _ _ _ _ _); k_dflt (refine TupSrc.ledger (by rfl) (by k_asm) (by k_asm) (by k_mem) (by first | size_fits | exact Nat.le_of_ble_eq_true rfl) ?_; intro g'; lcg_lit)) | (k_here; k_dflt (refine Assign_compTup (F₀ := by k_asm) (by rfl) (by with_unfolding_all rfl) (by with_unfolding_all rfl) (by decide) (by rfl) (by decide) (by rfl) (by rfl) (by rfl) ?_)) | (k_here; k_dflt (refine compTup (F₀ := by k_asm) (by with_unfolding_all rfl) (by decide) (by rfl) (by decide) (by rfl) ?_)) | (k_dflt (refine method_inst (by k_asm) (by k_asm) (by k_inst) (by k_is) (by k_is) (by k_is) (by k_get) ?_); (try dsimp only)) | (k_dflt (refine method_of_cls (by k_asm) (by k_asm) (by k_is) ?_); (try dsimp only)) | (k_here; (with_reducible show wpAny _ _ (call (Value.ref 364) _) _ _ _); k_dflt (refine eAt (by k_asm) (by k_asm) (by k_asm) (by k_asm) (by k_asm) (by k_room) (by first | exact Nat.le_of_ble_eq_true rfl | ke_room) (by assumption) (by assumption) (by assumption) (by k_mem) (by k_mem) (by assumption) (by l_fact) (by l_fact) (fun x' d' o' ho' g' h' tk' T9 F' B' X' T' D9 N' => ?_)); (try (replace T9 := KtsTurn.trans (by assumption) T9)); (try k_lift B'); (try k_sweep); (try dsimp only)) | (k_here; (with_reducible show wpAny _ _ (call (Value.ref 357) _) _ _ _); k_dflt (refine eMt (by k_asm) (by k_asm) (by k_asm) (by k_asm) (by k_asm) (by k_room) (by first | exact Nat.le_of_ble_eq_true rfl | ke_room) (by assumption) (by assumption) (by assumption) (by k_mem) (by k_mem) (by assumption) (by l_fact) (by l_fact) (by l_fact) (by l_fact) (fun x' d' o' ho' g' h' tk' T9 F' B' X' T' D9 N' => ?_)); (try (replace T9 := KtsTurn.trans (by assumption) T9)); (try k_lift B'); (try k_sweep); (try dsimp only)) | (k_here; (with_reducible show wpAny _ _ (call (Value.ref 350) _) _ _ _); k_dflt (refine eCt (by k_asm) (by k_asm) (by k_asm) (by k_asm) (by k_asm) (by k_room) (by first | exact Nat.le_of_ble_eq_true rfl | ke_room) (by assumption) (by assumption) (by assumption) (by k_mem) (by k_mem) (by assumption) (by l_fact) (by l_fact) (by l_fact) (by l_fact) (fun x' d' o' ho' g' h' tk' T9 F' B' X' T' D9 N' => ?_)); (try (replace T9 := KtsTurn.trans (by assumption) T9)); (try k_lift B'); (try k_sweep); (try dsimp only)) | (k_here; (with_reducible show wpAny _ _ (call (Value.ref 716) _) _ _ _); k_dflt (refine cSix (by k_asm) (by k_asm) (by k_asm) (by k_asm) (by k_asm) (by k_room) (by k_mem) (by k_mem) (by assumption) (fun l' t1' t2' t3' t4' t5' t6' h' tk' F' N' l1 => ?_)); (replace l1 := allLt_of l1; (try simp only [AllLt, and_true] at l1)); (try k_sweep); (try dsimp only)) | (k_here; (with_reducible show wpAny _ _ (call (Value.ref 709) _) _ _ _); k_dflt (refine cLawTime (by k_asm) (by k_asm) (by k_asm) (by k_asm) (by k_asm) (by k_room) (by l_fact) (by l_fact) (fun Y' M' D' l' t1' t2' t3' eY eM eD h' tk' F' N' l1 => ?_)); subst eY eM eD; (try k_sweep); (try dsimp only)) | (k_here; (with_reducible show wpAny _ _ (call (Value.ref 702) _) _ _ _); k_dflt (refine cLawDate (by k_asm) (by k_asm) (by k_asm) (by k_asm) (by k_asm) (by k_room) (by l_fact) (by l_fact) (fun Y' M' D' l' t1' t2' t3' eY eM eD h' tk' F' N' l1 => ?_)); subst eY eM eD; (try k_sweep); (try dsimp only)) | (k_here; (with_reducible show wpAny _ _ (call (Value.ref 595) [_, _, _, _, _, _, _, _, _, _, _, _]) _ _ _); k_dflt (refine ePos (by k_asm) (by k_asm) (by k_asm) (by k_asm) (by k_asm) (by k_room) (fun x' d' o' ho' h' tk' F' N' => ?_)); (try k_sweep); (try dsimp only))); k_steps)
  dsimp only
  refine wpG.cons (wpG_Expr (wpG_MethodCall_ ?_))
  k_steps
  repeat' (refine Later.mk ?_; (first | ((with_reducible show wpAny _ _ (getMethod _ (PySem.Str.ofString "get_ctime") _) _ _ _); k_dflt (refine gCt (by k_asm) (by k_asm) (by k_asm) (by k_mem) (by k_mem) (by assumption) ?_); (try dsimp only)) | ((with_reducible show wpAny _ _ (getMethod _ (PySem.Str.ofString "get_mtime") _) _ _ _); k_dflt (refine gMt (by k_asm) (by k_asm) (by k_asm) (by k_mem) (by k_mem) (by assumption) ?_); (try dsimp only)) | ((with_reducible show wpAny _ _ (getMethod _ (PySem.Str.ofString "get_atime") _) _ _ _); k_dflt (refine gAt (by k_asm) (by k_asm) (by k_asm) (by k_mem) (by k_mem) (by assumption) ?_); (try dsimp only)) | (k_here; (with_reducible show wpAny _ _ (compareOp CmpOp.Eq (Value.ref _) (Value.ref _)) _ _ _); k_dflt (refine eq_dataH (by ke_read) (by ke_read) (by (simp [SeqAt.shaped, PyData.canLay0, PyData.canLayAll0, PyData.depth, PyData.depthAll]; done)) (by (simp [SeqAt.shaped, PyData.canLay0, PyData.canLayAll0, PyData.depth, PyData.depthAll]; done)) (by ke_room) ?_); (simp only [PyData.eqv, PyData.eqvAll, beq_self_eq_true, Bool.and_true])) | (k_here; (with_reducible show TupSrc _ _ _ _ _ _ (Expr.BinOp _ _ _ _) _ _ _ _ _ _); k_dflt (refine TupSrc.ledger (by rfl) (by k_asm) (by k_asm) (by k_mem) (by first | size_fits | exact Nat.le_of_ble_eq_true rfl) ?_; intro g'; lcg_lit)) | (k_here; k_dflt (refine Assign_compTup (F₀ := by k_asm) (by rfl) (by with_unfolding_all rfl) (by with_unfolding_all rfl) (by decide) (by rfl) (by decide) (by rfl) (by rfl) (by rfl) ?_)) | (k_here; k_dflt (refine compTup (F₀ := by k_asm) (by with_unfolding_all rfl) (by decide) (by rfl) (by decide) (by rfl) ?_)) | (k_dflt (refine method_inst (by k_asm) (by k_asm) (by k_inst) (by k_is) (by k_is) (by k_is) (by k_get) ?_); (try dsimp only)) | (k_dflt (refine method_of_cls (by k_asm) (by k_asm) (by k_is) ?_); (try dsimp only)) | (k_here; (with_reducible show wpAny _ _ (call (Value.ref 364) _) _ _ _); k_dflt (refine eAt (by k_asm) (by k_asm) (by k_asm) (by k_asm) (by k_asm) (by k_room) (by first | exact Nat.le_of_ble_eq_true rfl | ke_room) (by assumption) (by assumption) (by assumption) (by k_mem) (by k_mem) (by assumption) (by l_fact) (by l_fact) (fun x' d' o' ho' g' h' tk' T9 F' B' X' T' D9 N' => ?_)); (try (replace T9 := KtsTurn.trans (by assumption) T9)); (try k_lift B'); (try k_sweep); (try dsimp only)) | (k_here; (with_reducible show wpAny _ _ (call (Value.ref 357) _) _ _ _); k_dflt (refine eMt (by k_asm) (by k_asm) (by k_asm) (by k_asm) (by k_asm) (by k_room) (by first | exact Nat.le_of_ble_eq_true rfl | ke_room) (by assumption) (by assumption) (by assumption) (by k_mem) (by k_mem) (by assumption) (by l_fact) (by l_fact) (by l_fact) (by l_fact) (fun x' d' o' ho' g' h' tk' T9 F' B' X' T' D9 N' => ?_)); (try (replace T9 := KtsTurn.trans (by assumption) T9)); (try k_lift B'); (try k_sweep); (try dsimp only)) | (k_here; (with_reducible show wpAny _ _ (call (Value.ref 350) _) _ _ _); k_dflt (refine eCt (by k_asm) (by k_asm) (by k_asm) (by k_asm) (by k_asm) (by k_room) (by first | exact Nat.le_of_ble_eq_true rfl | ke_room) (by assumption) (by assumption) (by assumption) (by k_mem) (by k_mem) (by assumption) (by l_fact) (by l_fact) (by l_fact) (by l_fact) (fun x' d' o' ho' g' h' tk' T9 F' B' X' T' D9 N' => ?_)); (try (replace T9 := KtsTurn.trans (by assumption) T9)); (try k_lift B'); (try k_sweep); (try dsimp only)) | (k_here; (with_reducible show wpAny _ _ (call (Value.ref 716) _) _ _ _); k_dflt (refine cSix (by k_asm) (by k_asm) (by k_asm) (by k_asm) (by k_asm) (by k_room) (by k_mem) (by k_mem) (by assumption) (fun l' t1' t2' t3' t4' t5' t6' h' tk' F' N' l1 => ?_)); (replace l1 := allLt_of l1; (try simp only [AllLt, and_true] at l1)); (try k_sweep); (try dsimp only)) | (k_here; (with_reducible show wpAny _ _ (call (Value.ref 709) _) _ _ _); k_dflt (refine cLawTime (by k_asm) (by k_asm) (by k_asm) (by k_asm) (by k_asm) (by k_room) (by l_fact) (by l_fact) (fun Y' M' D' l' t1' t2' t3' eY eM eD h' tk' F' N' l1 => ?_)); subst eY eM eD; (try k_sweep); (try dsimp only)) | (k_here; (with_reducible show wpAny _ _ (call (Value.ref 702) _) _ _ _); k_dflt (refine cLawDate (by k_asm) (by k_asm) (by k_asm) (by k_asm) (by k_asm) (by k_room) (by l_fact) (by l_fact) (fun Y' M' D' l' t1' t2' t3' eY eM eD h' tk' F' N' l1 => ?_)); subst eY eM eD; (try k_sweep); (try dsimp only)) | (k_here; (with_reducible show wpAny _ _ (call (Value.ref 595) [_, _, _, _, _, _, _, _, _, _, _, _]) _ _ _); k_dflt (refine ePos (by k_asm) (by k_asm) (by k_asm) (by k_asm) (by k_asm) (by k_room) (fun x' d' o' ho' h' tk' F' N' => ?_)); (try k_sweep); (try dsimp only))); k_steps)
  refine wpG_callWith_K (h₀ := h₀) (K := Mine.hd.heap_39 w.params) (by k_is) ?_
  k_steps
  repeat' (refine Later.mk ?_; (first | ((with_reducible show wpAny _ _ (getMethod _ (PySem.Str.ofString "get_ctime") _) _ _ _); k_dflt (refine gCt (by k_asm) (by k_asm) (by k_asm) (by k_mem) (by k_mem) (by assumption) ?_); (try dsimp only)) | ((with_reducible show wpAny _ _ (getMethod _ (PySem.Str.ofString "get_mtime") _) _ _ _); k_dflt (refine gMt (by k_asm) (by k_asm) (by k_asm) (by k_mem) (by k_mem) (by assumption) ?_); (try dsimp only)) | ((with_reducible show wpAny _ _ (getMethod _ (PySem.Str.ofString "get_atime") _) _ _ _); k_dflt (refine gAt (by k_asm) (by k_asm) (by k_asm) (by k_mem) (by k_mem) (by assumption) ?_); (try dsimp only)) | (k_here; (with_reducible show wpAny _ _ (compareOp CmpOp.Eq (Value.ref _) (Value.ref _)) _ _ _); k_dflt (refine eq_dataH (by ke_read) (by ke_read) (by (simp [SeqAt.shaped, PyData.canLay0, PyData.canLayAll0, PyData.depth, PyData.depthAll]; done)) (by (simp [SeqAt.shaped, PyData.canLay0, PyData.canLayAll0, PyData.depth, PyData.depthAll]; done)) (by ke_room) ?_); (simp only [PyData.eqv, PyData.eqvAll, beq_self_eq_true, Bool.and_true])) | (k_here; (with_reducible show TupSrc _ _ _ _ _ _ (Expr.BinOp _ _ _ _) _ _ _ _ _ _); k_dflt (refine TupSrc.ledger (by rfl) (by k_asm) (by k_asm) (by k_mem) (by first | size_fits | exact Nat.le_of_ble_eq_true rfl) ?_; intro g'; lcg_lit)) | (k_here; k_dflt (refine Assign_compTup (F₀ := by k_asm) (by rfl) (by with_unfolding_all rfl) (by with_unfolding_all rfl) (by decide) (by rfl) (by decide) (by rfl) (by rfl) (by rfl) ?_)) | (k_here; k_dflt (refine compTup (F₀ := by k_asm) (by with_unfolding_all rfl) (by decide) (by rfl) (by decide) (by rfl) ?_)) | (k_dflt (refine method_inst (by k_asm) (by k_asm) (by k_inst) (by k_is) (by k_is) (by k_is) (by k_get) ?_); (try dsimp only)) | (k_dflt (refine method_of_cls (by k_asm) (by k_asm) (by k_is) ?_); (try dsimp only)) | (k_here; (with_reducible show wpAny _ _ (call (Value.ref 364) _) _ _ _); k_dflt (refine eAt (by k_asm) (by k_asm) (by k_asm) (by k_asm) (by k_asm) (by k_room) (by first | exact Nat.le_of_ble_eq_true rfl | ke_room) (by assumption) (by assumption) (by assumption) (by k_mem) (by k_mem) (by assumption) (by l_fact) (by l_fact) (fun x' d' o' ho' g' h' tk' T9 F' B' X' T' D9 N' => ?_)); (try (replace T9 := KtsTurn.trans (by assumption) T9)); (try k_lift B'); (try k_sweep); (try dsimp only)) | (k_here; (with_reducible show wpAny _ _ (call (Value.ref 357) _) _ _ _); k_dflt (refine eMt (by k_asm) (by k_asm) (by k_asm) (by k_asm) (by k_asm) (by k_room) (by first | exact Nat.le_of_ble_eq_true rfl | ke_room) (by assumption) (by assumption) (by assumption) (by k_mem) (by k_mem) (by assumption) (by l_fact) (by l_fact) (by l_fact) (by l_fact) (fun x' d' o' ho' g' h' tk' T9 F' B' X' T' D9 N' => ?_)); (try (replace T9 := KtsTurn.trans (by assumption) T9)); (try k_lift B'); (try k_sweep); (try dsimp only)) | (k_here; (with_reducible show wpAny _ _ (call (Value.ref 350) _) _ _ _); k_dflt (refine eCt (by k_asm) (by k_asm) (by k_asm) (by k_asm) (by k_asm) (by k_room) (by first | exact Nat.le_of_ble_eq_true rfl | ke_room) (by assumption) (by assumption) (by assumption) (by k_mem) (by k_mem) (by assumption) (by l_fact) (by l_fact) (by l_fact) (by l_fact) (fun x' d' o' ho' g' h' tk' T9 F' B' X' T' D9 N' => ?_)); (try (replace T9 := KtsTurn.trans (by assumption) T9)); (try k_lift B'); (try k_sweep); (try dsimp only)) | (k_here; (with_reducible show wpAny _ _ (call (Value.ref 716) _) _ _ _); k_dflt (refine cSix (by k_asm) (by k_asm) (by k_asm) (by k_asm) (by k_asm) (by k_room) (by k_mem) (by k_mem) (by assumption) (fun l' t1' t2' t3' t4' t5' t6' h' tk' F' N' l1 => ?_)); (replace l1 := allLt_of l1; (try simp only [AllLt, and_true] at l1)); (try k_sweep); (try dsimp only)) | (k_here; (with_reducible show wpAny _ _ (call (Value.ref 709) _) _ _ _); k_dflt (refine cLawTime (by k_asm) (by k_asm) (by k_asm) (by k_asm) (by k_asm) (by k_room) (by l_fact) (by l_fact) (fun Y' M' D' l' t1' t2' t3' eY eM eD h' tk' F' N' l1 => ?_)); subst eY eM eD; (try k_sweep); (try dsimp only)) | (k_here; (with_reducible show wpAny _ _ (call (Value.ref 702) _) _ _ _); k_dflt (refine cLawDate (by k_asm) (by k_asm) (by k_asm) (by k_asm) (by k_asm) (by k_room) (by l_fact) (by l_fact) (fun Y' M' D' l' t1' t2' t3' eY eM eD h' tk' F' N' l1 => ?_)); subst eY eM eD; (try k_sweep); (try dsimp only)) | (k_here; (with_reducible show wpAny _ _ (call (Value.ref 595) [_, _, _, _, _, _, _, _, _, _, _, _]) _ _ _); k_dflt (refine ePos (by k_asm) (by k_asm) (by k_asm) (by k_asm) (by k_asm) (by k_room) (fun x' d' o' ho' h' tk' F' N' => ?_)); (try k_sweep); (try dsimp only))); k_steps)
  (try dsimp only [List.cons_append, List.nil_append])
  refine cSet (by k_asm) (by k_asm) (by k_asm) (by k_asm) (by k_room) padWORDS baW0 (by decide) (by k_asm) (ltOf (by simp only [AllLt, and_true]; omega)) (by assumption) fun h' tk' F' N' => ?_
  dsimp only
  refine wpG.any ?_
  have w0 := modB (v * 1 + Int.fdiv 1 7)
  generalize (v * 1 + Int.fdiv 1 7).fmod 65536 = a0 at w0 N' ⊢
  obtain ⟨wl0, wu0⟩ := w0
  have w1 := modB (v * 40503 + Int.fdiv 40503 7)
  generalize (v * 40503 + Int.fdiv 40503 7).fmod 65536 = a1 at w1 N' ⊢
  obtain ⟨wl1, wu1⟩ := w1
  have w2 := modB (v * 25717 + Int.fdiv 25717 7)
  generalize (v * 25717 + Int.fdiv 25717 7).fmod 65536 = a2 at w2 N' ⊢
  obtain ⟨wl2, wu2⟩ := w2
  have w3 := modB (v * 31337 + Int.fdiv 31337 7)
  generalize (v * 31337 + Int.fdiv 31337 7).fmod 65536 = a3 at w3 N' ⊢
  obtain ⟨wl3, wu3⟩ := w3
  have w4 := modB (v * 51001 + Int.fdiv 51001 7)
  generalize (v * 51001 + Int.fdiv 51001 7).fmod 65536 = a4 at w4 N' ⊢
  obtain ⟨wl4, wu4⟩ := w4
  k_steps
  repeat' (refine Later.mk ?_; (first | ((with_reducible show wpAny _ _ (getMethod _ (PySem.Str.ofString "get_ctime") _) _ _ _); k_dflt (refine gCt (by k_asm) (by k_asm) (by k_asm) (by k_mem) (by k_mem) (by assumption) ?_); (try dsimp only)) | ((with_reducible show wpAny _ _ (getMethod _ (PySem.Str.ofString "get_mtime") _) _ _ _); k_dflt (refine gMt (by k_asm) (by k_asm) (by k_asm) (by k_mem) (by k_mem) (by assumption) ?_); (try dsimp only)) | ((with_reducible show wpAny _ _ (getMethod _ (PySem.Str.ofString "get_atime") _) _ _ _); k_dflt (refine gAt (by k_asm) (by k_asm) (by k_asm) (by k_mem) (by k_mem) (by assumption) ?_); (try dsimp only)) | (k_here; (with_reducible show wpAny _ _ (compareOp CmpOp.Eq (Value.ref _) (Value.ref _)) _ _ _); k_dflt (refine eq_dataH (by ke_read) (by ke_read) (by (simp [SeqAt.shaped, PyData.canLay0, PyData.canLayAll0, PyData.depth, PyData.depthAll]; done)) (by (simp [SeqAt.shaped, PyData.canLay0, PyData.canLayAll0, PyData.depth, PyData.depthAll]; done)) (by ke_room) ?_); (simp only [PyData.eqv, PyData.eqvAll, beq_self_eq_true, Bool.and_true])) | (k_here; (with_reducible show TupSrc _ _ _ _ _ _ (Expr.BinOp _ _ _ _) _ _ _ _ _ _); k_dflt (refine TupSrc.ledger (by rfl) (by k_asm) (by k_asm) (by k_mem) (by first | size_fits | exact Nat.le_of_ble_eq_true rfl) ?_; intro g'; lcg_lit)) | (k_here; k_dflt (refine Assign_compTup (F₀ := by k_asm) (by rfl) (by with_unfolding_all rfl) (by with_unfolding_all rfl) (by decide) (by rfl) (by decide) (by rfl) (by rfl) (by rfl) ?_)) | (k_here; k_dflt (refine compTup (F₀ := by k_asm) (by with_unfolding_all rfl) (by decide) (by rfl) (by decide) (by rfl) ?_)) | (k_dflt (refine method_inst (by k_asm) (by k_asm) (by k_inst) (by k_is) (by k_is) (by k_is) (by k_get) ?_); (try dsimp only)) | (k_dflt (refine method_of_cls (by k_asm) (by k_asm) (by k_is) ?_); (try dsimp only)) | (k_here; (with_reducible show wpAny _ _ (call (Value.ref 364) _) _ _ _); k_dflt (refine eAt (by k_asm) (by k_asm) (by k_asm) (by k_asm) (by k_asm) (by k_room) (by first | exact Nat.le_of_ble_eq_true rfl | ke_room) (by assumption) (by assumption) (by assumption) (by k_mem) (by k_mem) (by assumption) (by l_fact) (by l_fact) (fun x' d' o' ho' g' h' tk' T9 F' B' X' T' D9 N' => ?_)); (try (replace T9 := KtsTurn.trans (by assumption) T9)); (try k_lift B'); (try k_sweep); (try dsimp only)) | (k_here; (with_reducible show wpAny _ _ (call (Value.ref 357) _) _ _ _); k_dflt (refine eMt (by k_asm) (by k_asm) (by k_asm) (by k_asm) (by k_asm) (by k_room) (by first | exact Nat.le_of_ble_eq_true rfl | ke_room) (by assumption) (by assumption) (by assumption) (by k_mem) (by k_mem) (by assumption) (by l_fact) (by l_fact) (by l_fact) (by l_fact) (fun x' d' o' ho' g' h' tk' T9 F' B' X' T' D9 N' => ?_)); (try (replace T9 := KtsTurn.trans (by assumption) T9)); (try k_lift B'); (try k_sweep); (try dsimp only)) | (k_here; (with_reducible show wpAny _ _ (call (Value.ref 350) _) _ _ _); k_dflt (refine eCt (by k_asm) (by k_asm) (by k_asm) (by k_asm) (by k_asm) (by k_room) (by first | exact Nat.le_of_ble_eq_true rfl | ke_room) (by assumption) (by assumption) (by assumption) (by k_mem) (by k_mem) (by assumption) (by l_fact) (by l_fact) (by l_fact) (by l_fact) (fun x' d' o' ho' g' h' tk' T9 F' B' X' T' D9 N' => ?_)); (try (replace T9 := KtsTurn.trans (by assumption) T9)); (try k_lift B'); (try k_sweep); (try dsimp only)) | (k_here; (with_reducible show wpAny _ _ (call (Value.ref 716) _) _ _ _); k_dflt (refine cSix (by k_asm) (by k_asm) (by k_asm) (by k_asm) (by k_asm) (by k_room) (by k_mem) (by k_mem) (by assumption) (fun l' t1' t2' t3' t4' t5' t6' h' tk' F' N' l1 => ?_)); (replace l1 := allLt_of l1; (try simp only [AllLt, and_true] at l1)); (try k_sweep); (try dsimp only)) | (k_here; (with_reducible show wpAny _ _ (call (Value.ref 709) _) _ _ _); k_dflt (refine cLawTime (by k_asm) (by k_asm) (by k_asm) (by k_asm) (by k_asm) (by k_room) (by l_fact) (by l_fact) (fun Y' M' D' l' t1' t2' t3' eY eM eD h' tk' F' N' l1 => ?_)); subst eY eM eD; (try k_sweep); (try dsimp only)) | (k_here; (with_reducible show wpAny _ _ (call (Value.ref 702) _) _ _ _); k_dflt (refine cLawDate (by k_asm) (by k_asm) (by k_asm) (by k_asm) (by k_asm) (by k_room) (by l_fact) (by l_fact) (fun Y' M' D' l' t1' t2' t3' eY eM eD h' tk' F' N' l1 => ?_)); subst eY eM eD; (try k_sweep); (try dsimp only)) | (k_here; (with_reducible show wpAny _ _ (call (Value.ref 595) [_, _, _, _, _, _, _, _, _, _, _, _]) _ _ _); k_dflt (refine ePos (by k_asm) (by k_asm) (by k_asm) (by k_asm) (by k_asm) (by k_room) (fun x' d' o' ho' h' tk' F' N' => ?_)); (try k_sweep); (try dsimp only))); k_steps)
  (with_reducible rename News _ _ _ (_ :: _) => kN9)
  have kP9 := News.drop9 kN9 (keepM_sub [true, true, true, true, true, true, true, true, true, false, false, true, false, false, true] _)
  clear kN9
  dsimp only [keepM] at kP9
  refine Later.mk ?_
  k_dflt (refine TupSrc.ledger (by rfl) (by k_asm) (by k_asm) (by k_mem) (by exact Nat.le_of_ble_eq_true rfl) ?_)
  intro g'
  lcg_lit
  k_steps
  repeat' (refine Later.mk ?_; (first | ((with_reducible show wpAny _ _ (getMethod _ (PySem.Str.ofString "get_ctime") _) _ _ _); k_dflt (refine gCt (by k_asm) (by k_asm) (by k_asm) (by k_mem) (by k_mem) (by assumption) ?_); (try dsimp only)) | ((with_reducible show wpAny _ _ (getMethod _ (PySem.Str.ofString "get_mtime") _) _ _ _); k_dflt (refine gMt (by k_asm) (by k_asm) (by k_asm) (by k_mem) (by k_mem) (by assumption) ?_); (try dsimp only)) | ((with_reducible show wpAny _ _ (getMethod _ (PySem.Str.ofString "get_atime") _) _ _ _); k_dflt (refine gAt (by k_asm) (by k_asm) (by k_asm) (by k_mem) (by k_mem) (by assumption) ?_); (try dsimp only)) | (k_here; (with_reducible show wpAny _ _ (compareOp CmpOp.Eq (Value.ref _) (Value.ref _)) _ _ _); k_dflt (refine eq_dataH (by ke_read) (by ke_read) (by (simp [SeqAt.shaped, PyData.canLay0, PyData.canLayAll0, PyData.depth, PyData.depthAll]; done)) (by (simp [SeqAt.shaped, PyData.canLay0, PyData.canLayAll0, PyData.depth, PyData.depthAll]; done)) (by ke_room) ?_); (simp only [PyData.eqv, PyData.eqvAll, beq_self_eq_true, Bool.and_true])) | (k_here; (with_reducible show TupSrc _ _ _ _ _ _ (Expr.BinOp _ _ _ _) _ _ _ _ _ _); k_dflt (refine TupSrc.ledger (by rfl) (by k_asm) (by k_asm) (by k_mem) (by first | size_fits | exact Nat.le_of_ble_eq_true rfl) ?_; intro g'; lcg_lit)) | (k_here; k_dflt (refine Assign_compTup (F₀ := by k_asm) (by rfl) (by with_unfolding_all rfl) (by with_unfolding_all rfl) (by decide) (by rfl) (by decide) (by rfl) (by rfl) (by rfl) ?_)) | (k_here; k_dflt (refine compTup (F₀ := by k_asm) (by with_unfolding_all rfl) (by decide) (by rfl) (by decide) (by rfl) ?_)) | (k_dflt (refine method_inst (by k_asm) (by k_asm) (by k_inst) (by k_is) (by k_is) (by k_is) (by k_get) ?_); (try dsimp only)) | (k_dflt (refine method_of_cls (by k_asm) (by k_asm) (by k_is) ?_); (try dsimp only)) | (k_here; (with_reducible show wpAny _ _ (call (Value.ref 364) _) _ _ _); k_dflt (refine eAt (by k_asm) (by k_asm) (by k_asm) (by k_asm) (by k_asm) (by k_room) (by first | exact Nat.le_of_ble_eq_true rfl | ke_room) (by assumption) (by assumption) (by assumption) (by k_mem) (by k_mem) (by assumption) (by l_fact) (by l_fact) (fun x' d' o' ho' g' h' tk' T9 F' B' X' T' D9 N' => ?_)); (try (replace T9 := KtsTurn.trans (by assumption) T9)); (try k_lift B'); (try k_sweep); (try dsimp only)) | (k_here; (with_reducible show wpAny _ _ (call (Value.ref 357) _) _ _ _); k_dflt (refine eMt (by k_asm) (by k_asm) (by k_asm) (by k_asm) (by k_asm) (by k_room) (by first | exact Nat.le_of_ble_eq_true rfl | ke_room) (by assumption) (by assumption) (by assumption) (by k_mem) (by k_mem) (by assumption) (by l_fact) (by l_fact) (by l_fact) (by l_fact) (fun x' d' o' ho' g' h' tk' T9 F' B' X' T' D9 N' => ?_)); (try (replace T9 := KtsTurn.trans (by assumption) T9)); (try k_lift B'); (try k_sweep); (try dsimp only)) | (k_here; (with_reducible show wpAny _ _ (call (Value.ref 350) _) _ _ _); k_dflt (refine eCt (by k_asm) (by k_asm) (by k_asm) (by k_asm) (by k_asm) (by k_room) (by first | exact Nat.le_of_ble_eq_true rfl | ke_room) (by assumption) (by assumption) (by assumption) (by k_mem) (by k_mem) (by assumption) (by l_fact) (by l_fact) (by l_fact) (by l_fact) (fun x' d' o' ho' g' h' tk' T9 F' B' X' T' D9 N' => ?_)); (try (replace T9 := KtsTurn.trans (by assumption) T9)); (try k_lift B'); (try k_sweep); (try dsimp only)) | (k_here; (with_reducible show wpAny _ _ (call (Value.ref 716) _) _ _ _); k_dflt (refine cSix (by k_asm) (by k_asm) (by k_asm) (by k_asm) (by k_asm) (by k_room) (by k_mem) (by k_mem) (by assumption) (fun l' t1' t2' t3' t4' t5' t6' h' tk' F' N' l1 => ?_)); (replace l1 := allLt_of l1; (try simp only [AllLt, and_true] at l1)); (try k_sweep); (try dsimp only)) | (k_here; (with_reducible show wpAny _ _ (call (Value.ref 709) _) _ _ _); k_dflt (refine cLawTime (by k_asm) (by k_asm) (by k_asm) (by k_asm) (by k_asm) (by k_room) (by l_fact) (by l_fact) (fun Y' M' D' l' t1' t2' t3' eY eM eD h' tk' F' N' l1 => ?_)); subst eY eM eD; (try k_sweep); (try dsimp only)) | (k_here; (with_reducible show wpAny _ _ (call (Value.ref 702) _) _ _ _); k_dflt (refine cLawDate (by k_asm) (by k_asm) (by k_asm) (by k_asm) (by k_asm) (by k_room) (by l_fact) (by l_fact) (fun Y' M' D' l' t1' t2' t3' eY eM eD h' tk' F' N' l1 => ?_)); subst eY eM eD; (try k_sweep); (try dsimp only)) | (k_here; (with_reducible show wpAny _ _ (call (Value.ref 595) [_, _, _, _, _, _, _, _, _, _, _, _]) _ _ _); k_dflt (refine ePos (by k_asm) (by k_asm) (by k_asm) (by k_asm) (by k_asm) (by k_room) (fun x' d' o' ho' h' tk' F' N' => ?_)); (try k_sweep); (try dsimp only))); k_steps)
  refine hQ9 _ _ ?_
  (try dsimp only)
  k_steps
  repeat' (refine Later.mk ?_; (first | ((with_reducible show wpAny _ _ (getMethod _ (PySem.Str.ofString "get_ctime") _) _ _ _); k_dflt (refine gCt (by k_asm) (by k_asm) (by k_asm) (by k_mem) (by k_mem) (by assumption) ?_); (try dsimp only)) | ((with_reducible show wpAny _ _ (getMethod _ (PySem.Str.ofString "get_mtime") _) _ _ _); k_dflt (refine gMt (by k_asm) (by k_asm) (by k_asm) (by k_mem) (by k_mem) (by assumption) ?_); (try dsimp only)) | ((with_reducible show wpAny _ _ (getMethod _ (PySem.Str.ofString "get_atime") _) _ _ _); k_dflt (refine gAt (by k_asm) (by k_asm) (by k_asm) (by k_mem) (by k_mem) (by assumption) ?_); (try dsimp only)) | (k_here; (with_reducible show wpAny _ _ (compareOp CmpOp.Eq (Value.ref _) (Value.ref _)) _ _ _); k_dflt (refine eq_dataH (by ke_read) (by ke_read) (by (simp [SeqAt.shaped, PyData.canLay0, PyData.canLayAll0, PyData.depth, PyData.depthAll]; done)) (by (simp [SeqAt.shaped, PyData.canLay0, PyData.canLayAll0, PyData.depth, PyData.depthAll]; done)) (by ke_room) ?_); (simp only [PyData.eqv, PyData.eqvAll, beq_self_eq_true, Bool.and_true])) | (k_here; (with_reducible show TupSrc _ _ _ _ _ _ (Expr.BinOp _ _ _ _) _ _ _ _ _ _); k_dflt (refine TupSrc.ledger (by rfl) (by k_asm) (by k_asm) (by k_mem) (by first | size_fits | exact Nat.le_of_ble_eq_true rfl) ?_; intro g'; lcg_lit)) | (k_here; k_dflt (refine Assign_compTup (F₀ := by k_asm) (by rfl) (by with_unfolding_all rfl) (by with_unfolding_all rfl) (by decide) (by rfl) (by decide) (by rfl) (by rfl) (by rfl) ?_)) | (k_here; k_dflt (refine compTup (F₀ := by k_asm) (by with_unfolding_all rfl) (by decide) (by rfl) (by decide) (by rfl) ?_)) | (k_dflt (refine method_inst (by k_asm) (by k_asm) (by k_inst) (by k_is) (by k_is) (by k_is) (by k_get) ?_); (try dsimp only)) | (k_dflt (refine method_of_cls (by k_asm) (by k_asm) (by k_is) ?_); (try dsimp only)) | (k_here; (with_reducible show wpAny _ _ (call (Value.ref 364) _) _ _ _); k_dflt (refine eAt (by k_asm) (by k_asm) (by k_asm) (by k_asm) (by k_asm) (by k_room) (by first | exact Nat.le_of_ble_eq_true rfl | ke_room) (by assumption) (by assumption) (by assumption) (by k_mem) (by k_mem) (by assumption) (by l_fact) (by l_fact) (fun x' d' o' ho' g' h' tk' T9 F' B' X' T' D9 N' => ?_)); (try (replace T9 := KtsTurn.trans (by assumption) T9)); (try k_lift B'); (try k_sweep); (try dsimp only)) | (k_here; (with_reducible show wpAny _ _ (call (Value.ref 357) _) _ _ _); k_dflt (refine eMt (by k_asm) (by k_asm) (by k_asm) (by k_asm) (by k_asm) (by k_room) (by first | exact Nat.le_of_ble_eq_true rfl | ke_room) (by assumption) (by assumption) (by assumption) (by k_mem) (by k_mem) (by assumption) (by l_fact) (by l_fact) (by l_fact) (by l_fact) (fun x' d' o' ho' g' h' tk' T9 F' B' X' T' D9 N' => ?_)); (try (replace T9 := KtsTurn.trans (by assumption) T9)); (try k_lift B'); (try k_sweep); (try dsimp only)) | (k_here; (with_reducible show wpAny _ _ (call (Value.ref 350) _) _ _ _); k_dflt (refine eCt (by k_asm) (by k_asm) (by k_asm) (by k_asm) (by k_asm) (by k_room) (by first | exact Nat.le_of_ble_eq_true rfl | ke_room) (by assumption) (by assumption) (by assumption) (by k_mem) (by k_mem) (by assumption) (by l_fact) (by l_fact) (by l_fact) (by l_fact) (fun x' d' o' ho' g' h' tk' T9 F' B' X' T' D9 N' => ?_)); (try (replace T9 := KtsTurn.trans (by assumption) T9)); (try k_lift B'); (try k_sweep); (try dsimp only)) | (k_here; (with_reducible show wpAny _ _ (call (Value.ref 716) _) _ _ _); k_dflt (refine cSix (by k_asm) (by k_asm) (by k_asm) (by k_asm) (by k_asm) (by k_room) (by k_mem) (by k_mem) (by assumption) (fun l' t1' t2' t3' t4' t5' t6' h' tk' F' N' l1 => ?_)); (replace l1 := allLt_of l1; (try simp only [AllLt, and_true] at l1)); (try k_sweep); (try dsimp only)) | (k_here; (with_reducible show wpAny _ _ (call (Value.ref 709) _) _ _ _); k_dflt (refine cLawTime (by k_asm) (by k_asm) (by k_asm) (by k_asm) (by k_asm) (by k_room) (by l_fact) (by l_fact) (fun Y' M' D' l' t1' t2' t3' eY eM eD h' tk' F' N' l1 => ?_)); subst eY eM eD; (try k_sweep); (try dsimp only)) | (k_here; (with_reducible show wpAny _ _ (call (Value.ref 702) _) _ _ _); k_dflt (refine cLawDate (by k_asm) (by k_asm) (by k_asm) (by k_asm) (by k_asm) (by k_room) (by l_fact) (by l_fact) (fun Y' M' D' l' t1' t2' t3' eY eM eD h' tk' F' N' l1 => ?_)); subst eY eM eD; (try k_sweep); (try dsimp only)) | (k_here; (with_reducible show wpAny _ _ (call (Value.ref 595) [_, _, _, _, _, _, _, _, _, _, _, _]) _ _ _); k_dflt (refine ePos (by k_asm) (by k_asm) (by k_asm) (by k_asm) (by k_asm) (by k_room) (fun x' d' o' ho' h' tk' F' N' => ?_)); (try k_sweep); (try dsimp only))); k_steps)
  refine' ok _ _ _ ?z9t ?z9f ?z9b ?z9i ?z9o ?z9k ?z9n; (case z9f => assumption); (case z9b => assumption); (case z9i => assumption); (case z9o => assumption); (case z9k => assumption); (case z9t => first | assumption | exact KtsTurn.refl); (case z9n => first | assumption | exact News.turn9 (by assumption) (by assumption))
end
section
def AnyBase (P : Heap → Prop) : Prop := ∃ h₀, P h₀
theorem AnyBase.of {P : Heap → Prop} {h₀ h : Heap} {L : Addr} {m : Str → Option Value} (_F : Fr h₀ L h m) (h : P h₀) : AnyBase P := ⟨h₀, h⟩
theorem For_any {prog : Program} {w : World} {A : Around} {E : Value → Shared → Prop} {s : Shared} {env : Env} {target : PySem.Expr} {body : List Stmt} {Q : Flow → Shared → Prop} {iter : PySem.Expr} {pos : Pos}
    (h : wpAny (model prog w) A (eval iter env) (fun xv s₁ => AnyBase fun h₀ => wpAny (model prog w) A (pyIter xv) (fun it s₂ => TurnsAt prog w A h₀ env target body Q E it s₂) E s₁) E s)
    (hs : ∀ x, foldedSetIterable iter env x = pure x := by intro _; rfl)
    (hE : PassesOwn (model prog w) A env E := by passes_own) :
    wpAny (model prog w) A (exec (.For target iter body [] pos) env) Q E s := by
  refine wpAny_For (wpAny_mono h (fun xv s₁ h₁ => h₁.elim fun h₀ h₁ => wpAny_mono h₁ (fun it s₂ h₂ => ?_) fun _ _ e => e) fun _ _ e => e) hs
  obtain ⟨I, fp, wr, n, P, Md, St, m, news, J, rfl, W, hLf, hwr, hnw, hst, F, N, h0, step, hQ⟩ := h₂
  exact ktu_loop (R := fun r s' => match r with | .ok f => Q f s' | .error e => cameBackBy (model prog w) A env E e s') W hLf hwr hnw hst F N J h0
    (fun i v m₁ news₁ h₁ tk₁ own a b c d e f g st F₁ N₁ => wpAny_mono (step i v m₁ news₁ h₁ tk₁ own a b c d e f g st F₁ N₁) (fun _ _ x => wpAny_passesOwn hE x) hE) hQ
local macro_rules | `(tactic| walk_at "exec For Name Tuple cons nil") => `(tactic| (k_here; (with_unfolding_all refine' For_any ?_; k_whole)))
local macro_rules | `(tactic| walk_at "AnyBase") => `(tactic| ((with_reducible rename Fr _ _ _ _ => lF'); refine AnyBase.of lF' ?_))
set_option maxRecDepth 100000 in
set_option maxHeartbeats 8000000 in
theorem cLawMoment {w : World} {mean : ExcName → Option Value} {mg mb : Str → Option Value} {dp un : Nat} {cn : Str} {nm : List (Str × NameKind)} {ig ic : Bool} {mo : List (Str × Const)} {a : Addr} {ccd : Value} {cl : List (Str × Addr)} {outer : List Env} {A₀ : Around} {base h₀ : Heap} {L : Addr} {m : Str → Option Value} {news : List (Addr × Obj)} {s : Shared} {Q : Value → Shared → Prop}
  (B : Below A₀ base outer h₀) (F : Fr h₀ L s.heap m) (X : (Mine.hd.heap_39 w.params).In h₀) (T : Top topProg LOOSE mean mg mb h₀) (hdp : dp + 60 < recursionLimit) (hun : un + 400 < cLine) (XB : (Mine.hd.heap_39 w.params).In base) (TB : Top topProg LOOSE mean mg mb base) (D : KtsDicts (outer.filterMap (·.frame)) h₀)
  {l : Addr} {n : Nat} {y mo' d h mi sec : Int} {t1 t2 t3 t4 t5 t6 : Tok} (N : News h₀ L s.heap news) (hl : (l, ({ cls := .type "list", data := .seq #[.int y t1, .int mo' t2, .int d t3, .int h t4, .int mi t5, .int sec t6] n : Obj })) ∈ news) (hy : 1980 ≤ y ∧ y ≤ 2107) (ho : okDay y mo' d) (hk : okTime h mi sec)
  (ok : ∀ h₁ h' tk', KtsTurn (outer.filterMap (·.frame)) h₀ h₁ → Fr h₁ L h' m → Below A₀ base outer h₁ → (Mine.hd.heap_39 w.params).In h₁ → Top topProg LOOSE mean mg mb h₁ → KtsDicts (outer.filterMap (·.frame)) h₁ → News h₁ L h' news → Q (.bool true) { s with heap := h', toks := tk' })
  : wpG (model PySem.Challenge.rw_jr0027_01.row.prog w) (aT none dp un (some []) cn ⟨.function, nm, ig, ic, mo⟩ L a ccd cl outer) (call (.ref 749) [.ref l]) Q s := by
  have mkS : StopAt [74, 81, 104, 340, 350, 357, 364, 716] := ⟨⟩
  have mkM : CutH := ⟨⟩
  have hb1 := ho
  have hb2 := hk
  simp only [okDay] at hb1
  simp only [okTime] at hb2
  obtain ⟨r1, r2, r3, r4, r5⟩ := decD hy ho
  obtain ⟨r6, r7, r8, r9, r10⟩ := decT hk
  have q1 : (dY ((y - 1980) * 512 + mo' * 32 + d) == y && (dM ((y - 1980) * 512 + mo' * 32 + d) == mo' && (dD ((y - 1980) * 512 + mo' * 32 + d) == d && (tH (h * 2048 + mi * 32 + sec.fdiv 2) == h && (tM (h * 2048 + mi * 32 + sec.fdiv 2) == mi && tS (h * 2048 + mi * 32 + sec.fdiv 2) == sec - sec.fmod 2))))) = true := by rw [r1, r2, r3, r6, r7, r8]; simp
  have q2 : (dY ((y - 1980) * 512 + mo' * 32 + d) == y && (dM ((y - 1980) * 512 + mo' * 32 + d) == mo' && dD ((y - 1980) * 512 + mo' * 32 + d) == d)) = true := by rw [r1, r2, r3]; simp
  refine wpG.call ?_
  (refine' code_defGSE (binds := [((Str.ofString "numbers"), .ref l)]) ?k1 ?k2 ?k3 (fun p hp => N p (sub1L hl p hp)) (News.rest N) off_rest ?k5 ?XB ?TB ?D ?T0 ?kA ?k6 ?k7 ?k8 ?k9 ?kB ?_ ?cK ?c2 ?c3 ?c4 ?c5; (case kA => exact rfl); (case k2 => k_asm); (case k1 => k_asm); (case XB => assumption); (case TB => assumption); (case D => assumption); (case T0 => exact KtsTurn.refl); (case k3 => k_asm); (case k5 => k_asm); (case k6 => k_is); (case k7 => k_is); (case k8 => k_room); (case k9 => first | exact BindsTo.of_eq rfl | exact binds_K (by k_in) rfl (by k_is) rfl rfl rfl | fail "enterSE: no rule for these arguments"); (case kB => exact locs rfl); (case cK => exact rfl); (case c2 => exact rfl); (case c3 => exact rfl); (case c4 => exact rfl); (case c5 => decide); k_whole; intro g' L' h' FG' F' N' B' X' T' D'; (try dsimp only); (try k_lift B'); (try k_fold))
  refine wpG.named fun Q9 hQ9 => ?_
  refine wpG.group (l₁ := [_, _, _, _, _]) ?_
  k_steps
  repeat' (refine Later.mk ?_; (first | ((with_reducible show wpAny _ _ (getMethod _ (PySem.Str.ofString "serialize_date") _) _ _ _); k_dflt (refine gSerD (by k_asm) (by k_asm) (by k_asm) (by k_mem) (by k_mem) (by assumption) ?_); (try dsimp only)) | ((with_reducible show wpAny _ _ (getMethod _ (PySem.Str.ofString "serialize_time") _) _ _ _); k_dflt (refine gSerT (by k_asm) (by k_asm) (by k_asm) (by k_mem) (by k_mem) (by assumption) ?_); (try dsimp only)) | ((with_reducible show wpAny _ _ (getMethod _ (PySem.Str.ofString "get_ctime") _) _ _ _); k_dflt (refine gCt (by k_asm) (by k_asm) (by k_asm) (by k_mem) (by k_mem) (by assumption) ?_); (try dsimp only)) | ((with_reducible show wpAny _ _ (getMethod _ (PySem.Str.ofString "get_mtime") _) _ _ _); k_dflt (refine gMt (by k_asm) (by k_asm) (by k_asm) (by k_mem) (by k_mem) (by assumption) ?_); (try dsimp only)) | ((with_reducible show wpAny _ _ (getMethod _ (PySem.Str.ofString "get_atime") _) _ _ _); k_dflt (refine gAt (by k_asm) (by k_asm) (by k_asm) (by k_mem) (by k_mem) (by assumption) ?_); (try dsimp only)) | (k_dflt (refine method_inst (by k_asm) (by k_asm) (by k_inst) (by k_is) (by k_is) (by k_is) (by k_get) ?_); (try dsimp only)) | (k_dflt (refine method_of_cls (by k_asm) (by k_asm) (by k_is) ?_); (try dsimp only)) | (k_here; (with_reducible show wpAny _ _ (call (Value.ref 364) _) _ _ _); k_dflt (refine eAt (by k_asm) (by k_asm) (by k_asm) (by k_asm) (by k_asm) (by k_room) (by first | exact Nat.le_of_ble_eq_true rfl | ke_room) (by assumption) (by assumption) (by assumption) (by k_mem) (by k_mem) (by assumption) (by l_fact) (by l_fact) (fun x' d' o' ho' g' h' tk' T9 F' B' X' T' D9 N' => ?_)); (try (replace T9 := KtsTurn.trans (by assumption) T9)); (try k_lift B'); (try k_sweep); (try dsimp only)) | (k_here; (with_reducible show wpAny _ _ (call (Value.ref 357) _) _ _ _); k_dflt (refine eMt (by k_asm) (by k_asm) (by k_asm) (by k_asm) (by k_asm) (by k_room) (by first | exact Nat.le_of_ble_eq_true rfl | ke_room) (by assumption) (by assumption) (by assumption) (by k_mem) (by k_mem) (by assumption) (by l_fact) (by l_fact) (by l_fact) (by l_fact) (fun x' d' o' ho' g' h' tk' T9 F' B' X' T' D9 N' => ?_)); (try (replace T9 := KtsTurn.trans (by assumption) T9)); (try k_lift B'); (try k_sweep); (try dsimp only)) | (k_here; (with_reducible show wpAny _ _ (call (Value.ref 350) _) _ _ _); k_dflt (refine eCt (by k_asm) (by k_asm) (by k_asm) (by k_asm) (by k_asm) (by k_room) (by first | exact Nat.le_of_ble_eq_true rfl | ke_room) (by assumption) (by assumption) (by assumption) (by k_mem) (by k_mem) (by assumption) (by l_fact) (by l_fact) (by l_fact) (by l_fact) (fun x' d' o' ho' g' h' tk' T9 F' B' X' T' D9 N' => ?_)); (try (replace T9 := KtsTurn.trans (by assumption) T9)); (try k_lift B'); (try k_sweep); (try dsimp only)) | (k_here; (with_reducible show wpAny _ _ (call (Value.ref 81) _) _ _ _); k_dflt (refine cSerT (by k_asm) (by k_asm) (by k_asm) (by k_asm) (by k_asm) (by k_room) (by k_mem) (by k_mem) (by assumption) (by omega) (by omega) (by omega) (fun t' h' tk' F' N' => ?_)); (try k_sweep); (try dsimp only)) | (k_here; (with_reducible show wpAny _ _ (call (Value.ref 74) _) _ _ _); k_dflt (refine cSerD (by k_asm) (by k_asm) (by k_asm) (by k_asm) (by k_asm) (by k_room) (by k_mem) (by k_mem) (by assumption) (by omega) (by omega) (by omega) (fun t' h' tk' F' N' => ?_)); (try k_sweep); (try dsimp only)) | (k_here; (with_reducible show wpAny _ _ (call (Value.ref 716) _) _ _ _); k_dflt (refine cSix (by k_asm) (by k_asm) (by k_asm) (by k_asm) (by k_asm) (by k_room) (by k_mem) (by k_mem) (by assumption) (fun l' t1' t2' t3' t4' t5' t6' h' tk' F' N' l1 => ?_)); clear l1; (try k_sweep); (try dsimp only)) | (k_here; (with_reducible show wpAny _ _ (call (Value.ref 340) _) _ _ _); k_dflt (refine cNew (by k_asm) (by k_asm) (by k_asm) (by k_asm) (by k_asm) (by k_room) (by k_mem) (by k_mem) (by assumption) (by assumption) (by assumption) (by assumption) (fun x' d' o' ho' h' tk' F' N' => ?_)); (try k_sweep); (try dsimp only)) | (k_here; (with_reducible show wpAny _ _ (call (Value.ref 104) [Value.int _ _, Value.int _ _, Value.int _ _, Value.int _ _, Value.int _ _, Value.int _ _]) _ _ _); k_dflt (refine eDate6 (by k_asm) (by k_asm) (by k_asm) (by k_asm) (by k_asm) (by k_room) (by assumption) (by assumption) (fun x' d' o' ho' h' tk' F' N' => ?_)); (try k_sweep); (try dsimp only))); k_steps)
  all_goals try (exfalso; contradiction)
  dsimp only
  refine wpG.cons (wpG_Expr (wpG_MethodCall_ ?_))
  k_steps
  repeat' (refine Later.mk ?_; (first | ((with_reducible show wpAny _ _ (getMethod _ (PySem.Str.ofString "serialize_date") _) _ _ _); k_dflt (refine gSerD (by k_asm) (by k_asm) (by k_asm) (by k_mem) (by k_mem) (by assumption) ?_); (try dsimp only)) | ((with_reducible show wpAny _ _ (getMethod _ (PySem.Str.ofString "serialize_time") _) _ _ _); k_dflt (refine gSerT (by k_asm) (by k_asm) (by k_asm) (by k_mem) (by k_mem) (by assumption) ?_); (try dsimp only)) | ((with_reducible show wpAny _ _ (getMethod _ (PySem.Str.ofString "get_ctime") _) _ _ _); k_dflt (refine gCt (by k_asm) (by k_asm) (by k_asm) (by k_mem) (by k_mem) (by assumption) ?_); (try dsimp only)) | ((with_reducible show wpAny _ _ (getMethod _ (PySem.Str.ofString "get_mtime") _) _ _ _); k_dflt (refine gMt (by k_asm) (by k_asm) (by k_asm) (by k_mem) (by k_mem) (by assumption) ?_); (try dsimp only)) | ((with_reducible show wpAny _ _ (getMethod _ (PySem.Str.ofString "get_atime") _) _ _ _); k_dflt (refine gAt (by k_asm) (by k_asm) (by k_asm) (by k_mem) (by k_mem) (by assumption) ?_); (try dsimp only)) | (k_dflt (refine method_inst (by k_asm) (by k_asm) (by k_inst) (by k_is) (by k_is) (by k_is) (by k_get) ?_); (try dsimp only)) | (k_dflt (refine method_of_cls (by k_asm) (by k_asm) (by k_is) ?_); (try dsimp only)) | (k_here; (with_reducible show wpAny _ _ (call (Value.ref 364) _) _ _ _); k_dflt (refine eAt (by k_asm) (by k_asm) (by k_asm) (by k_asm) (by k_asm) (by k_room) (by first | exact Nat.le_of_ble_eq_true rfl | ke_room) (by assumption) (by assumption) (by assumption) (by k_mem) (by k_mem) (by assumption) (by l_fact) (by l_fact) (fun x' d' o' ho' g' h' tk' T9 F' B' X' T' D9 N' => ?_)); (try (replace T9 := KtsTurn.trans (by assumption) T9)); (try k_lift B'); (try k_sweep); (try dsimp only)) | (k_here; (with_reducible show wpAny _ _ (call (Value.ref 357) _) _ _ _); k_dflt (refine eMt (by k_asm) (by k_asm) (by k_asm) (by k_asm) (by k_asm) (by k_room) (by first | exact Nat.le_of_ble_eq_true rfl | ke_room) (by assumption) (by assumption) (by assumption) (by k_mem) (by k_mem) (by assumption) (by l_fact) (by l_fact) (by l_fact) (by l_fact) (fun x' d' o' ho' g' h' tk' T9 F' B' X' T' D9 N' => ?_)); (try (replace T9 := KtsTurn.trans (by assumption) T9)); (try k_lift B'); (try k_sweep); (try dsimp only)) | (k_here; (with_reducible show wpAny _ _ (call (Value.ref 350) _) _ _ _); k_dflt (refine eCt (by k_asm) (by k_asm) (by k_asm) (by k_asm) (by k_asm) (by k_room) (by first | exact Nat.le_of_ble_eq_true rfl | ke_room) (by assumption) (by assumption) (by assumption) (by k_mem) (by k_mem) (by assumption) (by l_fact) (by l_fact) (by l_fact) (by l_fact) (fun x' d' o' ho' g' h' tk' T9 F' B' X' T' D9 N' => ?_)); (try (replace T9 := KtsTurn.trans (by assumption) T9)); (try k_lift B'); (try k_sweep); (try dsimp only)) | (k_here; (with_reducible show wpAny _ _ (call (Value.ref 81) _) _ _ _); k_dflt (refine cSerT (by k_asm) (by k_asm) (by k_asm) (by k_asm) (by k_asm) (by k_room) (by k_mem) (by k_mem) (by assumption) (by omega) (by omega) (by omega) (fun t' h' tk' F' N' => ?_)); (try k_sweep); (try dsimp only)) | (k_here; (with_reducible show wpAny _ _ (call (Value.ref 74) _) _ _ _); k_dflt (refine cSerD (by k_asm) (by k_asm) (by k_asm) (by k_asm) (by k_asm) (by k_room) (by k_mem) (by k_mem) (by assumption) (by omega) (by omega) (by omega) (fun t' h' tk' F' N' => ?_)); (try k_sweep); (try dsimp only)) | (k_here; (with_reducible show wpAny _ _ (call (Value.ref 716) _) _ _ _); k_dflt (refine cSix (by k_asm) (by k_asm) (by k_asm) (by k_asm) (by k_asm) (by k_room) (by k_mem) (by k_mem) (by assumption) (fun l' t1' t2' t3' t4' t5' t6' h' tk' F' N' l1 => ?_)); clear l1; (try k_sweep); (try dsimp only)) | (k_here; (with_reducible show wpAny _ _ (call (Value.ref 340) _) _ _ _); k_dflt (refine cNew (by k_asm) (by k_asm) (by k_asm) (by k_asm) (by k_asm) (by k_room) (by k_mem) (by k_mem) (by assumption) (by assumption) (by assumption) (by assumption) (fun x' d' o' ho' h' tk' F' N' => ?_)); (try k_sweep); (try dsimp only)) | (k_here; (with_reducible show wpAny _ _ (call (Value.ref 104) [Value.int _ _, Value.int _ _, Value.int _ _, Value.int _ _, Value.int _ _, Value.int _ _]) _ _ _); k_dflt (refine eDate6 (by k_asm) (by k_asm) (by k_asm) (by k_asm) (by k_asm) (by k_room) (by assumption) (by assumption) (fun x' d' o' ho' h' tk' F' N' => ?_)); (try k_sweep); (try dsimp only))); k_steps)
  refine wpG_callWith_K (h₀ := h₀) (K := Mine.hd.heap_39 w.params) (by k_is) ?_
  k_steps
  repeat' (refine Later.mk ?_; (first | ((with_reducible show wpAny _ _ (getMethod _ (PySem.Str.ofString "serialize_date") _) _ _ _); k_dflt (refine gSerD (by k_asm) (by k_asm) (by k_asm) (by k_mem) (by k_mem) (by assumption) ?_); (try dsimp only)) | ((with_reducible show wpAny _ _ (getMethod _ (PySem.Str.ofString "serialize_time") _) _ _ _); k_dflt (refine gSerT (by k_asm) (by k_asm) (by k_asm) (by k_mem) (by k_mem) (by assumption) ?_); (try dsimp only)) | ((with_reducible show wpAny _ _ (getMethod _ (PySem.Str.ofString "get_ctime") _) _ _ _); k_dflt (refine gCt (by k_asm) (by k_asm) (by k_asm) (by k_mem) (by k_mem) (by assumption) ?_); (try dsimp only)) | ((with_reducible show wpAny _ _ (getMethod _ (PySem.Str.ofString "get_mtime") _) _ _ _); k_dflt (refine gMt (by k_asm) (by k_asm) (by k_asm) (by k_mem) (by k_mem) (by assumption) ?_); (try dsimp only)) | ((with_reducible show wpAny _ _ (getMethod _ (PySem.Str.ofString "get_atime") _) _ _ _); k_dflt (refine gAt (by k_asm) (by k_asm) (by k_asm) (by k_mem) (by k_mem) (by assumption) ?_); (try dsimp only)) | (k_dflt (refine method_inst (by k_asm) (by k_asm) (by k_inst) (by k_is) (by k_is) (by k_is) (by k_get) ?_); (try dsimp only)) | (k_dflt (refine method_of_cls (by k_asm) (by k_asm) (by k_is) ?_); (try dsimp only)) | (k_here; (with_reducible show wpAny _ _ (call (Value.ref 364) _) _ _ _); k_dflt (refine eAt (by k_asm) (by k_asm) (by k_asm) (by k_asm) (by k_asm) (by k_room) (by first | exact Nat.le_of_ble_eq_true rfl | ke_room) (by assumption) (by assumption) (by assumption) (by k_mem) (by k_mem) (by assumption) (by l_fact) (by l_fact) (fun x' d' o' ho' g' h' tk' T9 F' B' X' T' D9 N' => ?_)); (try (replace T9 := KtsTurn.trans (by assumption) T9)); (try k_lift B'); (try k_sweep); (try dsimp only)) | (k_here; (with_reducible show wpAny _ _ (call (Value.ref 357) _) _ _ _); k_dflt (refine eMt (by k_asm) (by k_asm) (by k_asm) (by k_asm) (by k_asm) (by k_room) (by first | exact Nat.le_of_ble_eq_true rfl | ke_room) (by assumption) (by assumption) (by assumption) (by k_mem) (by k_mem) (by assumption) (by l_fact) (by l_fact) (by l_fact) (by l_fact) (fun x' d' o' ho' g' h' tk' T9 F' B' X' T' D9 N' => ?_)); (try (replace T9 := KtsTurn.trans (by assumption) T9)); (try k_lift B'); (try k_sweep); (try dsimp only)) | (k_here; (with_reducible show wpAny _ _ (call (Value.ref 350) _) _ _ _); k_dflt (refine eCt (by k_asm) (by k_asm) (by k_asm) (by k_asm) (by k_asm) (by k_room) (by first | exact Nat.le_of_ble_eq_true rfl | ke_room) (by assumption) (by assumption) (by assumption) (by k_mem) (by k_mem) (by assumption) (by l_fact) (by l_fact) (by l_fact) (by l_fact) (fun x' d' o' ho' g' h' tk' T9 F' B' X' T' D9 N' => ?_)); (try (replace T9 := KtsTurn.trans (by assumption) T9)); (try k_lift B'); (try k_sweep); (try dsimp only)) | (k_here; (with_reducible show wpAny _ _ (call (Value.ref 81) _) _ _ _); k_dflt (refine cSerT (by k_asm) (by k_asm) (by k_asm) (by k_asm) (by k_asm) (by k_room) (by k_mem) (by k_mem) (by assumption) (by omega) (by omega) (by omega) (fun t' h' tk' F' N' => ?_)); (try k_sweep); (try dsimp only)) | (k_here; (with_reducible show wpAny _ _ (call (Value.ref 74) _) _ _ _); k_dflt (refine cSerD (by k_asm) (by k_asm) (by k_asm) (by k_asm) (by k_asm) (by k_room) (by k_mem) (by k_mem) (by assumption) (by omega) (by omega) (by omega) (fun t' h' tk' F' N' => ?_)); (try k_sweep); (try dsimp only)) | (k_here; (with_reducible show wpAny _ _ (call (Value.ref 716) _) _ _ _); k_dflt (refine cSix (by k_asm) (by k_asm) (by k_asm) (by k_asm) (by k_asm) (by k_room) (by k_mem) (by k_mem) (by assumption) (fun l' t1' t2' t3' t4' t5' t6' h' tk' F' N' l1 => ?_)); clear l1; (try k_sweep); (try dsimp only)) | (k_here; (with_reducible show wpAny _ _ (call (Value.ref 340) _) _ _ _); k_dflt (refine cNew (by k_asm) (by k_asm) (by k_asm) (by k_asm) (by k_asm) (by k_room) (by k_mem) (by k_mem) (by assumption) (by assumption) (by assumption) (by assumption) (fun x' d' o' ho' h' tk' F' N' => ?_)); (try k_sweep); (try dsimp only)) | (k_here; (with_reducible show wpAny _ _ (call (Value.ref 104) [Value.int _ _, Value.int _ _, Value.int _ _, Value.int _ _, Value.int _ _, Value.int _ _]) _ _ _); k_dflt (refine eDate6 (by k_asm) (by k_asm) (by k_asm) (by k_asm) (by k_asm) (by k_room) (by assumption) (by assumption) (fun x' d' o' ho' h' tk' F' N' => ?_)); (try k_sweep); (try dsimp only))); k_steps)
  (try dsimp only [List.cons_append, List.nil_append])
  refine cSet (by k_asm) (by k_asm) (by k_asm) (by k_asm) (by k_room) padMOMENT baM0 (by decide) (by k_asm) (ltOf (by simp only [AllLt, and_true]; omega)) (by assumption) fun h' tk' F' N' => ?_
  dsimp only
  refine wpG.any ?_
  k_steps
  repeat' (refine Later.mk ?_; (first | ((with_reducible show wpAny _ _ (getMethod _ (PySem.Str.ofString "serialize_date") _) _ _ _); k_dflt (refine gSerD (by k_asm) (by k_asm) (by k_asm) (by k_mem) (by k_mem) (by assumption) ?_); (try dsimp only)) | ((with_reducible show wpAny _ _ (getMethod _ (PySem.Str.ofString "serialize_time") _) _ _ _); k_dflt (refine gSerT (by k_asm) (by k_asm) (by k_asm) (by k_mem) (by k_mem) (by assumption) ?_); (try dsimp only)) | ((with_reducible show wpAny _ _ (getMethod _ (PySem.Str.ofString "get_ctime") _) _ _ _); k_dflt (refine gCt (by k_asm) (by k_asm) (by k_asm) (by k_mem) (by k_mem) (by assumption) ?_); (try dsimp only)) | ((with_reducible show wpAny _ _ (getMethod _ (PySem.Str.ofString "get_mtime") _) _ _ _); k_dflt (refine gMt (by k_asm) (by k_asm) (by k_asm) (by k_mem) (by k_mem) (by assumption) ?_); (try dsimp only)) | ((with_reducible show wpAny _ _ (getMethod _ (PySem.Str.ofString "get_atime") _) _ _ _); k_dflt (refine gAt (by k_asm) (by k_asm) (by k_asm) (by k_mem) (by k_mem) (by assumption) ?_); (try dsimp only)) | (k_dflt (refine method_inst (by k_asm) (by k_asm) (by k_inst) (by k_is) (by k_is) (by k_is) (by k_get) ?_); (try dsimp only)) | (k_dflt (refine method_of_cls (by k_asm) (by k_asm) (by k_is) ?_); (try dsimp only)) | (k_here; (with_reducible show wpAny _ _ (call (Value.ref 364) _) _ _ _); k_dflt (refine eAt (by k_asm) (by k_asm) (by k_asm) (by k_asm) (by k_asm) (by k_room) (by first | exact Nat.le_of_ble_eq_true rfl | ke_room) (by assumption) (by assumption) (by assumption) (by k_mem) (by k_mem) (by assumption) (by l_fact) (by l_fact) (fun x' d' o' ho' g' h' tk' T9 F' B' X' T' D9 N' => ?_)); (try (replace T9 := KtsTurn.trans (by assumption) T9)); (try k_lift B'); (try k_sweep); (try dsimp only)) | (k_here; (with_reducible show wpAny _ _ (call (Value.ref 357) _) _ _ _); k_dflt (refine eMt (by k_asm) (by k_asm) (by k_asm) (by k_asm) (by k_asm) (by k_room) (by first | exact Nat.le_of_ble_eq_true rfl | ke_room) (by assumption) (by assumption) (by assumption) (by k_mem) (by k_mem) (by assumption) (by l_fact) (by l_fact) (by l_fact) (by l_fact) (fun x' d' o' ho' g' h' tk' T9 F' B' X' T' D9 N' => ?_)); (try (replace T9 := KtsTurn.trans (by assumption) T9)); (try k_lift B'); (try k_sweep); (try dsimp only)) | (k_here; (with_reducible show wpAny _ _ (call (Value.ref 350) _) _ _ _); k_dflt (refine eCt (by k_asm) (by k_asm) (by k_asm) (by k_asm) (by k_asm) (by k_room) (by first | exact Nat.le_of_ble_eq_true rfl | ke_room) (by assumption) (by assumption) (by assumption) (by k_mem) (by k_mem) (by assumption) (by l_fact) (by l_fact) (by l_fact) (by l_fact) (fun x' d' o' ho' g' h' tk' T9 F' B' X' T' D9 N' => ?_)); (try (replace T9 := KtsTurn.trans (by assumption) T9)); (try k_lift B'); (try k_sweep); (try dsimp only)) | (k_here; (with_reducible show wpAny _ _ (call (Value.ref 81) _) _ _ _); k_dflt (refine cSerT (by k_asm) (by k_asm) (by k_asm) (by k_asm) (by k_asm) (by k_room) (by k_mem) (by k_mem) (by assumption) (by omega) (by omega) (by omega) (fun t' h' tk' F' N' => ?_)); (try k_sweep); (try dsimp only)) | (k_here; (with_reducible show wpAny _ _ (call (Value.ref 74) _) _ _ _); k_dflt (refine cSerD (by k_asm) (by k_asm) (by k_asm) (by k_asm) (by k_asm) (by k_room) (by k_mem) (by k_mem) (by assumption) (by omega) (by omega) (by omega) (fun t' h' tk' F' N' => ?_)); (try k_sweep); (try dsimp only)) | (k_here; (with_reducible show wpAny _ _ (call (Value.ref 716) _) _ _ _); k_dflt (refine cSix (by k_asm) (by k_asm) (by k_asm) (by k_asm) (by k_asm) (by k_room) (by k_mem) (by k_mem) (by assumption) (fun l' t1' t2' t3' t4' t5' t6' h' tk' F' N' l1 => ?_)); clear l1; (try k_sweep); (try dsimp only)) | (k_here; (with_reducible show wpAny _ _ (call (Value.ref 340) _) _ _ _); k_dflt (refine cNew (by k_asm) (by k_asm) (by k_asm) (by k_asm) (by k_asm) (by k_room) (by k_mem) (by k_mem) (by assumption) (by assumption) (by assumption) (by assumption) (fun x' d' o' ho' h' tk' F' N' => ?_)); (try k_sweep); (try dsimp only)) | (k_here; (with_reducible show wpAny _ _ (call (Value.ref 104) [Value.int _ _, Value.int _ _, Value.int _ _, Value.int _ _, Value.int _ _, Value.int _ _]) _ _ _); k_dflt (refine eDate6 (by k_asm) (by k_asm) (by k_asm) (by k_asm) (by k_asm) (by k_room) (by assumption) (by assumption) (fun x' d' o' ho' h' tk' F' N' => ?_)); (try k_sweep); (try dsimp only))); k_steps)
  all_goals first
    | (exfalso; exact absurd (q1.symm.trans (by assumption)) (by decide))
    | (exfalso; exact absurd (q2.symm.trans (by assumption)) (by decide))
    | (refine hQ9 _ _ ?_; (try dsimp only); k_steps; (with_reducible rename News _ _ _ (_ :: _) => kN9); refine' ok _ _ _ ?z9t ?z9f ?z9b ?z9i ?z9o ?z9k ?z9r; (case z9f => assumption); (case z9b => assumption); (case z9i => assumption); (case z9o => assumption); (case z9k => assumption); (case z9t => first | assumption | exact KtsTurn.refl); (case z9r => exact News.whole N (sub1L hl) (News.drop9 kN9 (sub1L (by k_mem))) (by first | assumption | exact News.turn9 (by assumption) (by assumption))))
end
theorem loopG {prog : Program} {w : World} {A : Around} {R : Result → Shared → Prop} {s : Shared} {env : Env} {h₀ : Heap} {target : Expr} {body : List Stmt} {I : Addr} {fp : List Addr} {n : Nat} {P : Nat → Value → Prop} {St : Nat → Heap → Prop} {m : Str → Option Value} {keep : List (Addr × Obj)}
    (W : Walks prog w A I fp [I] n P St) (hS : ∀ i h, St i h → ∃ o, h.get? I = some o) (hfp : ∀ b ∈ fp, b = I ∨ ∃ o, (b, o) ∈ keep)
    (hI₀ : h₀.get? I = none) (hIL : I ≠ env.locals) (hk : ∀ p ∈ keep, p.1 ≠ I) (hst : St 0 s.heap) (F : Fr h₀ env.locals s.heap m) (N : News h₀ env.locals s.heap keep)
    (J : Nat → (Str → Option Value) → Prop) (h0 : J 0 m)
    (step : ∀ i v oI h tk m₁, i < n → P i v → J i m₁ → Fr h₀ env.locals h m₁ → News h₀ env.locals h ((I, oI) :: keep) →
      wpAny (model prog w) A (assign target env v) (fun _ s₂ => wpG (model prog w) A (execs body env) (fun f s₃ => match f with
        | .next | .cont => ∃ h' tk' m', s₃ = { s with heap := h', toks := tk' } ∧ Fr h₀ env.locals h' m' ∧ News h₀ env.locals h' ((I, oI) :: keep) ∧ J (i + 1) m'
        | .brk => False
        | .ret _ => False) s₂) NoE { s with heap := h, toks := tk })
    (hR : ∀ h' tk m', Fr h₀ env.locals h' m' → News h₀ env.locals h' keep → J n m' → R (.ok .next) { s with heap := h', toks := tk })
    (ht : ∀ v, letOwnedTupleGo target (.ref I) v = pure () := by intro _; rfl) :
    codeG (model prog w) A (.forLoop target (.ref I) body [] env) R s := by
  have hLw : env.locals ∉ [I] := fun h => hIL (List.mem_singleton.mp h).symm
  have old : ∀ b o, h₀.get? b = some o → b ∉ [I] := fun b o e hb => by rw [List.mem_singleton.mp hb, hI₀] at e; cases e
  refine codeG_forLoop (fun k s' => ∃ h' tk m' i, s' = { s with heap := h', toks := tk } ∧ St i h' ∧ Fr h₀ env.locals h' m' ∧ News h₀ env.locals h' keep ∧ J i m' ∧ i ≤ n ∧ k = n - i) ?_ n
    ⟨s.heap, s.toks, m, 0, rfl, hst, F, N, h0, Nat.zero_le _, by omega⟩ ht
  rintro k s' ⟨h', tk, m', i, rfl, hst', F', N', hJ, hi, rfl⟩
  have next : ∀ h₁ : Heap, (∀ b o, b ∉ [I] → h'.get? b = some o → h₁.get? b = some o) → Fr h₀ env.locals h₁ m' ∧ News h₀ env.locals h₁ keep := fun h₁ hk₁ =>
    ⟨⟨F'.ns.at' fun o e => hk₁ _ o hLw e, fun b o e => hk₁ b o (old b o e) (F'.keep b o e), F'.above⟩, fun p hp => ⟨hk₁ _ _ (fun q => hk p hp (List.mem_singleton.mp q)) (N' p hp).1, (N' p hp).2⟩⟩
  by_cases hlt : i < n
  · refine W.item i _ _ _ hlt hst' fun v h₁ tk₁ hP hst₁ hk₁ => ?_
    obtain ⟨F₁, N₁⟩ := next h₁ hk₁
    obtain ⟨oI, hoI⟩ := hS (i + 1) h₁ hst₁
    have Nx : News h₀ env.locals h₁ ((I, oI) :: keep) := fun p hp => by
      rcases List.mem_cons.mp hp with rfl | hp
      · exact ⟨hoI, hIL, hI₀⟩
      · exact N₁ p hp
    have back : ∀ (f : Flow) s₃, (∃ h' tk' m', s₃ = { s with heap := h', toks := tk' } ∧ Fr h₀ env.locals h' m' ∧ News h₀ env.locals h' ((I, oI) :: keep) ∧ J (i + 1) m') →
        ∃ q, q < n - i ∧ ∃ h' tk m' j, s₃ = { s with heap := h', toks := tk } ∧ St j h' ∧ Fr h₀ env.locals h' m' ∧ News h₀ env.locals h' keep ∧ J j m' ∧ j ≤ n ∧ q = n - j := by
      rintro f s₃ ⟨h₂, tk₂, m₂, rfl, F₂, N₂, hJ₂⟩
      refine ⟨n - (i + 1), by omega, h₂, tk₂, m₂, i + 1, rfl, W.frame _ _ _ hst₁ (fun b hb o e => ?_), F₂, fun p hp => N₂ p (List.mem_cons_of_mem _ hp), hJ₂, hlt, rfl⟩
      rcases hfp b hb with rfl | ⟨o', ho'⟩
      · rw [hoI] at e
        cases e
        exact (N₂ _ List.mem_cons_self).1
      · rw [(N₁ _ ho').1] at e
        cases e
        exact (N₂ _ (List.mem_cons_of_mem _ ho')).1
    refine wpAny_mono (step i v oI h₁ tk₁ m' hlt hP hJ F₁ Nx) (fun _ s₂ h₂ => wpG.mono h₂ (fun f s₃ h₃ => ?_)) fun _ _ e => e
    cases f with
    | next => exact back .next s₃ h₃
    | cont => exact back .next s₃ h₃
    | brk => exact h₃.elim
    | ret v => exact h₃.elim
  · have hin : i = n := by omega
    subst hin
    refine W.done _ _ _ hst' fun h₁ tk₁ hk₁ => ?_
    obtain ⟨F₁, N₁⟩ := next h₁ hk₁
    exact hR h₁ tk₁ m' F₁ N₁ hJ
/-- an item of a list of small numbers, whatever the index -/
theorem wordItem {prog : Program} {w : World} {A : Around} {E : Value → Shared → Prop} {s : Shared} {h₀ : Heap} {L l : Addr} {news : List (Addr × Obj)} {o : Obj} {its : Array Value} {n : Nat} {k : Int} {u : Tok} {value slice : Expr} {Q : Value → Shared → Prop}
    (N : News h₀ L s.heap news) (hm : (l, o) ∈ news) (hc : o.cls = .type "list") (hd : o.data = .seq its n) (hW : ∀ v ∈ its.toList, ∃ x t, v = .int x t ∧ 0 ≤ x ∧ x < 65536)
    (hlo : -(its.size : Int) ≤ k) (hhi : k < its.size) (hsz : its.size ≤ sizeLine)
    (h : ∀ x t, 0 ≤ x → x < 65536 → Q (.int x t) s)
    (hs : subscripted slice false (.ref l) (.int k u) = operate [.ref l, .int k u] (getItem (.ref l) (.int k u)) := by with_unfolding_all rfl) :
    wpAny (model prog w) A (subscriptTail value slice (.ref l) (.int k u)) Q E s := by
  have hl : s.heap.IsList l its := ⟨_, (N _ hm).1, hc, _, hd⟩
  by_cases h0 : 0 ≤ k
  · have hx : k.toNat < its.size := by omega
    obtain ⟨x, t, e, b1, b2⟩ := hW its[k.toNat] (by simp)
    exact tail_any hl.typeIs slot_list_getitem.lookup (wpAny_getItem_list hl h0 (by rw [sizeLine_eq] at hsz; omega) (by rw [Array.getElem?_eq_getElem hx, e]) (h x t b1 b2)) hs
  · have hx : (k + its.size).toNat < its.size := by omega
    obtain ⟨x, t, e, b1, b2⟩ := hW its[(k + its.size).toNat] (by simp)
    exact tail_any hl.typeIs slot_list_getitem.lookup (wpAny_getItem_list_neg hl (by omega) hlo (by rw [sizeLine_eq] at hsz; omega) (by rw [Array.getElem?_eq_getElem hx, e]) (h x t b1 b2)) hs
def StepOK (h₀ : Heap) (L I : Addr) (oI : Obj) (keep : List (Addr × Obj)) (J : (Str → Option Value) → Prop) (s : Shared) (f : Flow) (s₃ : Shared) : Prop :=
  match f with
  | .next | .cont => ∃ h' tk' m', s₃ = { s with heap := h', toks := tk' } ∧ Fr h₀ L h' m' ∧ News h₀ L h' ((I, oI) :: keep) ∧ J m'
  | .brk => False
  | .ret _ => False
section
variable {prog : Program} {w : World} {A : Around} {R : Result → Shared → Prop} {E : Value → Shared → Prop} {s : Shared} {env : Env} {h₀ : Heap} {target : Expr} {body : List Stmt} {m : Str → Option Value} {keep : List (Addr × Obj)}
theorem lenWords {L D : Addr} {ys : List Value} {n : Nat} {Q : Value → Shared → Prop} (N : News h₀ L s.heap keep) (hm : (D, ({ cls := .type "list", data := .seq (List.toArray ys) n } : Obj)) ∈ keep) (hl : ys.length ≤ 6)
    (h : ∀ t tk, Q (.int (ys.length : Int) t) { s with toks := tk }) : wpAny (model prog w) A (call (.builtin "len") [.ref D]) Q E s :=
  Calls.call_len_list (items := List.toArray ys) ⟨_, (N _ hm).1, rfl, _, rfl⟩ (by rw [List.size_toArray]; omega) (by rw [List.size_toArray]; exact h _ _)
theorem loopRange {r : Addr} {n : Nat} {t u v : Tok} (hh : A.handled = none) (F : Fr h₀ env.locals s.heap m) (N : News h₀ env.locals s.heap keep) (hr : IsRange s.heap r 0 (n : Int) 1 t u v) (hn6 : n ≤ 6)
    (J : Nat → (Str → Option Value) → Prop) (h0 : J 0 m)
    (step : ∀ i t I oI h tk m₁, i < n → J i m₁ → Fr h₀ env.locals h m₁ → (∀ p ∈ keep, p.1 ≠ I) → News h₀ env.locals h ((I, oI) :: keep) →
      wpAny (model prog w) A (assign target env (.int (i : Int) t)) (fun _ s₂ => wpG (model prog w) A (execs body env) (StepOK h₀ env.locals I oI keep (J (i + 1)) s) s₂) NoE { s with heap := h, toks := tk })
    (hR : ∀ h' tk m', Fr h₀ env.locals h' m' → News h₀ env.locals h' keep → J n m' → R (.ok .next) { s with heap := h', toks := tk })
    (ht : ∀ it v, letOwnedTupleGo target it v = pure () := by intro _ _; rfl) :
    wpAny (model prog w) A (pyIter (.ref r)) (fun it s₂ => codeG (model prog w) A (.forLoop target it body [] env) R s₂) E s := by
  have hsm : Builtin.Range.small 0 (n : Int) 1 = true := by
    rcases (by omega : n = 0 ∨ n = 1 ∨ n = 2 ∨ n = 3 ∨ n = 4 ∨ n = 5 ∨ n = 6) with rfl | rfl | rfl | rfl | rfl | rfl | rfl <;> first | rfl | decide +kernel
  have hn : Builtin.Range.rangeSize 0 (n : Int) 1 = ((n : Nat) : Int) := by
    rcases (by omega : n = 0 ∨ n = 1 ∨ n = 2 ∨ n = 3 ∨ n = 4 ∨ n = 5 ∨ n = 6) with rfl | rfl | rfl | rfl | rfl | rfl | rfl <;> first | rfl | decide +kernel
  refine wpAny_pyIter_range hr hsm ?_
  have hI : ∀ p ∈ keep, p.1 ≠ s.heap.objs.size := fun p hp => Nat.ne_of_lt (Heap.lt_size (N p hp).1)
  refine loopG (LCg.range_walks hh 0 n) (fun i h st => ⟨_, st⟩) (fun b hb => .inl (List.mem_singleton.mp hb)) (Heap.get?_none_of_le (Nat.le_of_lt (Nat.lt_of_le_of_lt F.above F.ns.lt))) (Ne.symm (Nat.ne_of_lt F.ns.lt)) hI
    (by show IsRangeIter _ _ _ _ _; rw [hn]; simpa using Heap.get?_push_size _ rfl) (F.push _) (fun p hp => ⟨Heap.get?_push_of_some _ (N p hp).1, (N p hp).2⟩) J h0 (fun i v oI h tk m₁ hi hP hJ F₁ N₁ => ?_) hR (fun v => ht _ v)
  obtain ⟨t, rfl⟩ := hP
  have e : (0 : Int) + (i : Int) = (i : Int) := Int.zero_add _
  rw [e]
  refine wpAny_mono (step i t _ oI h tk m₁ hi hJ F₁ hI N₁) (fun _ s₂ h₂ => wpG.mono h₂ fun f s₃ h₃ => ?_) fun _ _ e => e
  cases f <;> exact h₃
end
/-- a for over a made list of ints, of any length; the frame's map turns freely -/
theorem loopListK {prog : Program} {w : World} {A : Around} {R : Result → Shared → Prop} {E : Value → Shared → Prop} {s : Shared} {env : Env} {h₀ : Heap} {x : Str} {px : Pos} {body : List Stmt} {m : Str → Option Value} {keep : List (Addr × Obj)} {D : Addr} {its : Array Value} {n : Nat}
    (hm : (D, ({ cls := .type "list", data := .seq its n } : Obj)) ∈ keep) (hi : ∀ v ∈ its.toList, ∃ (k : Int) (t : Tok), v = .int k t) (hh : A.handled = none) (F : Fr h₀ env.locals s.heap m) (N : News h₀ env.locals s.heap keep)
    (step : ∀ k t I oI h tk m₁, Fr h₀ env.locals h m₁ → D ≠ I → News h₀ env.locals h [(I, oI), (D, { cls := .type "list", data := .seq its n })] →
      wpAny (model prog w) A (assign (.Name x px) env (.int k t)) (fun _ s₂ => Later (wpG (model prog w) A (execs body env) (StepOK h₀ env.locals I oI [(D, { cls := .type "list", data := .seq its n })] (fun _ => True) s) s₂)) NoE { s with heap := h, toks := tk })
    (hR : ∀ h' tk m', Fr h₀ env.locals h' m' → R (.ok .next) { s with heap := h', toks := tk }) :
    wpAny (model prog w) A (pyIter (.ref D)) (fun it s₂ => codeG (model prog w) A (.forLoop (.Name x px) it body [] env) R s₂) E s := by
  have hls : s.heap.IsList D its := ⟨_, (N _ hm).1, rfl, _, rfl⟩
  have hlt : D < s.heap.objs.size := Heap.lt_size (N _ hm).1
  have N1 : News h₀ env.locals s.heap [(D, ({ cls := .type "list", data := .seq its n } : Obj))] := fun p hp => by
    rw [List.mem_singleton.mp hp]; exact N _ hm
  refine wpAny_pyIter_list hls ?_
  have hI : ∀ p ∈ [(D, ({ cls := .type "list", data := .seq its n } : Obj))], p.1 ≠ s.heap.objs.size := fun p hp => Nat.ne_of_lt (Heap.lt_size (N1 p hp).1)
  refine loopG (Walks.list hh s.heap.objs.size D (Nat.ne_of_lt hlt) its) (fun i h st => by obtain ⟨o, e, _⟩ := st.1; exact ⟨o, e⟩) (fun b hb => ?_) (Heap.get?_none_of_le (Nat.le_of_lt (Nat.lt_of_le_of_lt F.above F.ns.lt))) (Ne.symm (Nat.ne_of_lt F.ns.lt)) hI
    ⟨⟨_, Heap.get?_push_size _ rfl, rfl, rfl⟩, hls.at fun o e => Heap.get?_push_of_some _ e⟩ (F.push _) (fun p hp => ⟨Heap.get?_push_of_some _ (N1 p hp).1, (N1 p hp).2⟩) (fun _ _ => True) trivial (fun i v oI h tk m₁ hlt' hP _ F₁ N₁ => ?_) (fun h' tk m' F' N' _ => hR h' tk m' F')
  · rcases List.mem_cons.mp hb with rfl | hb
    · exact .inl rfl
    · exact .inr ⟨_, by rw [List.mem_singleton.mp hb]; exact List.mem_singleton.mpr rfl⟩
  · have hv : v ∈ its.toList := by
      have e : its[i]? = some v := hP
      exact Array.mem_toList_iff.mpr (Array.mem_of_getElem? e)
    obtain ⟨k, t, rfl⟩ := hi v hv
    refine wpAny_mono (step k t _ oI h tk m₁ F₁ (Nat.ne_of_lt hlt) N₁) (fun _ s₂ h₂ => wpG.mono h₂.out fun f s₃ h₃ => ?_) fun _ _ e => e
    cases f <;> exact h₃
def IntsIn (h₀ : Heap) (L : Addr) (s : Shared) (xv : Value) (s₁ : Shared) : Prop :=
  ∃ D its n h tk m keep, xv = .ref D ∧ s₁ = { s with heap := h, toks := tk } ∧ Fr h₀ L h m ∧ News h₀ L h keep ∧ (D, ({ cls := .type "list", data := .seq its n } : Obj)) ∈ keep ∧ ∀ v ∈ its.toList, ∃ (k : Int) (t : Tok), v = .int k t
theorem wpG_ForInts {prog : Program} {w : World} {A : Around} {Q : Flow → Shared → Prop} {s : Shared} {env : Env} {h₀ : Heap} {x : Str} {px pos : Pos} {body : List Stmt} {iter : Expr} (hh : A.handled = none)
    (h : wpAny (model prog w) A (eval iter env) (IntsIn h₀ env.locals s) NoE s)
    (step : ∀ D its n k t I oI h tk m₁, Fr h₀ env.locals h m₁ → D ≠ I → News h₀ env.locals h [(I, oI), (D, { cls := .type "list", data := .seq its n })] →
      wpAny (model prog w) A (assign (.Name x px) env (.int k t)) (fun _ s₂ => Later (wpG (model prog w) A (execs body env) (StepOK h₀ env.locals I oI [(D, { cls := .type "list", data := .seq its n })] (fun _ => True) s) s₂)) NoE { s with heap := h, toks := tk })
    (done : ∀ h' tk m', Fr h₀ env.locals h' m' → Q .next { s with heap := h', toks := tk })
    (hs : ∀ x, foldedSetIterable iter env x = pure x := by intro _; rfl) :
    wpG (model prog w) A (exec (.For (.Name x px) iter body [] pos) env) Q s := by
  refine wpG_For (wpAny_mono h (fun xv s₁ h₁ => ?_) fun _ _ e => e) hs
  obtain ⟨D, its, n, h, tk, m, keep, rfl, rfl, F, N, hm, hi⟩ := h₁
  exact loopListK hm hi hh F N (step D its n) done
theorem intsOf {ys : List Value} {ns : List Int} (h : IntsAre ys ns) : ∀ v ∈ ys.toArray.toList, ∃ (k : Int) (t : Tok), v = .int k t := by
  show ∀ v ∈ ys, ∃ (k : Int) (t : Tok), v = .int k t
  induction ns generalizing ys with
  | nil => cases h; exact fun v hv => nomatch hv
  | cons a r ih =>
    cases h with
    | cons t hr =>
      intro v hv
      rcases List.mem_cons.mp hv with rfl | hv
      · exact ⟨_, _, rfl⟩
      · exact ih (by assumption) v hv
theorem modP {x b : Int} (h : 0 < b) : 0 ≤ x.fmod b ∧ x.fmod b < b := by
  rw [Int.fmod_eq_emod_of_nonneg _ (Int.le_of_lt h)]
  exact ⟨Int.emod_nonneg _ (Int.ne_of_gt h), Int.emod_lt_of_pos _ h⟩
def YearDone (s₁ : Shared) (h₀ : Heap) (L : Addr) (keep : List (Addr × Obj)) (f : Flow) (s' : Shared) : Prop :=
  f = .next ∧ ∃ kn tn y ty h' tk', ∃ m' : Str → Option Value, s' = { s₁ with heap := h', toks := tk' } ∧ Fr h₀ L h' (fun z => if z = Str.ofString "year" then some (.int y ty) else if z = Str.ofString "n" then some (.int kn tn) else m' z) ∧ News h₀ L h' keep ∧ 0 ≤ kn ∧ kn < 10 ^ 40
def NumsDone (s₁ : Shared) (h₀ : Heap) (L : Addr) (keep : List (Addr × Obj)) (f : Flow) (s' : Shared) : Prop :=
  f = .next ∧ ∃ D y mo d h mi sec t1 t2 t3 t4 t5 t6 n kn tn h' tk' , ∃ m' : Str → Option Value, s' = { s₁ with heap := h', toks := tk' } ∧ Fr h₀ L h' (fun z => if z = Str.ofString "numbers" then some (.ref D) else if z = Str.ofString "n" then some (.int kn tn) else m' z) ∧
    News h₀ L h' ((D, { cls := .type "list", data := .seq #[.int y t1, .int mo t2, .int d t3, .int h t4, .int mi t5, .int sec t6] n }) :: keep) ∧ 0 ≤ kn ∧ kn < 10 ^ 40
def MadeDone (s₁ : Shared) (h₀ : Heap) (L : Addr) (kn : Int) (tn : Tok) (keep : List (Addr × Obj)) (f : Flow) (s' : Shared) : Prop :=
  f = .next ∧ ∃ h' tk' , ∃ m' : Str → Option Value, s' = { s₁ with heap := h', toks := tk' } ∧ Fr h₀ L h' (fun z => if z = Str.ofString "n" then some (.int kn tn) else m' z) ∧ News h₀ L h' keep
def DayDone (s₁ : Shared) (h₀ : Heap) (L : Addr) (keep : List (Addr × Obj)) (f : Flow) (s' : Shared) : Prop :=
  f = .next ∧ ∃ D y mo d h mi sec t1 t2 t3 t4 t5 t6 n la tl h' tk' , ∃ m' : Str → Option Value, s' = { s₁ with heap := h', toks := tk' } ∧ Fr h₀ L h' (fun z => if z = Str.ofString "last" then some (.int la tl) else if z = Str.ofString "day" then some (.ref D) else m' z) ∧
    News h₀ L h' ((D, { cls := .type "list", data := .seq #[.int y t1, .int mo t2, .int d t3, .int h t4, .int mi t5, .int sec t6] n }) :: keep) ∧ (1980 ≤ y ∧ y ≤ 2107) ∧ okDay y mo d ∧ okDay y mo la ∧ okTime h mi sec
theorem Fr.see {h₀ h : Heap} {L : Addr} {m : Str → Option Value} {x : Str} {v : Option Value} (F : Fr h₀ L h m) (e : m x = v) : Fr h₀ L h (fun z => if z = x then v else m z) := by
  have q : (fun z => if z = x then v else m z) = m := funext fun z => by by_cases k : z = x <;> simp [k, e]
  rw [q]; exact F
theorem groupTo {prog : Program} {w : World} {A : Around} {s : Shared} {env : Env} {l₁ l₂ : List Stmt} {Q P : Flow → Shared → Prop}
    (h : wpAny (model prog w) A (execs l₁ env) P NoE s) (hP : ∀ f s', P f s' → f = .next) (k : ∀ s', P .next s' → wpG (model prog w) A (execs l₂ env) Q s') : wpG (model prog w) A (execs (l₁ ++ l₂) env) Q s :=
  wpG.group (wpAny_mono h (fun f s' hd => by obtain rfl := hP f s' hd; exact k s' hd) fun _ _ e => e)
theorem okDay28 {y m d : Int} (hy : 1 ≤ y ∧ y ≤ 9999) (hm : 1 ≤ m ∧ m ≤ 12) (hd : 1 ≤ d ∧ d ≤ 28) : okDay y m d :=
  ⟨hy.1, hy.2, hm.1, hm.2, hd.1, by omega, fun _ => by omega, fun _ => ⟨by omega, fun _ => by omega⟩⟩
theorem dayFacts (n : Int) : (1980 ≤ 1980 + n.fmod 128 ∧ 1980 + n.fmod 128 ≤ 2107) ∧ okDay (1980 + n.fmod 128) (1 + (n.fdiv 128).fmod 12) (1 + (n.fdiv 1536).fmod 28) ∧
    okDay (1980 + n.fmod 128) (1 + (n.fdiv 128).fmod 12) (lawDays (1980 + n.fmod 128) (1 + (n.fdiv 128).fmod 12 + 1) - lawDays (1980 + n.fmod 128) (1 + (n.fdiv 128).fmod 12)) ∧
    okTime ((n.fdiv 43008).fmod 24) ((n.fdiv 1032192).fmod 60) ((n.fdiv 61931520).fmod 60) := by
  have a := modP (x := n) (b := 128) (by decide)
  have b := modP (x := n.fdiv 128) (b := 12) (by decide)
  have c := modP (x := n.fdiv 1536) (b := 28) (by decide)
  have d := modP (x := n.fdiv 43008) (b := 24) (by decide)
  have e := modP (x := n.fdiv 1032192) (b := 60) (by decide)
  have f := modP (x := n.fdiv 61931520) (b := 60) (by decide)
  generalize n.fmod 128 = A at *
  generalize (n.fdiv 128).fmod 12 = B at *
  generalize (n.fdiv 1536).fmod 28 = C at *
  exact ⟨by omega, okDay28 (by omega) (by omega) (by omega), lawLast ⟨by omega, by omega, by omega, by omega⟩, by simp only [okTime]; omega⟩
section
theorem callTopG {prog : Program} {w : World} {A : Around} {R : Result → Shared → Prop} {s : Shared} {name : Str} {params : Arguments} {body : List Stmt} {scope : Scope}
    {dV kV pm cd doc : Value} {a : Addr} {o : Obj} {args : Args} {binds : List (Str × Value)}
    (hroom : A.depth < recursionLimit) (ho : s.heap.get? a = some o) (hdata : o.data = .func { docDef name params body scope pm cd doc with defaults := dV, kwdefaults := kV }) (hlim : s.heap.NoLimit) (hcd : s.heap.CodeRec cd name)
    (hbind : BindsTo s { docDef name params body scope pm cd doc with defaults := dV, kwdefaults := kV } args binds)
    (hloc : ∀ x ∈ binds, scope.names.lookup x.1 = some .local)
    (h : ∀ h₁, Fr s.heap s.heap.objs.size h₁ (fun x => binds.reverse.lookup x) →
      wpG (model prog w) (A.deeper (envOf name scope s.heap.objs.size a cd)) (execs body (envOf name scope s.heap.objs.size a cd))
        (fun f s' => R (.ok (.ret (match f with | .ret v => v | _ => .none))) s') { s with heap := h₁, toks := s.toks + binds.length })
    (hco : scope.isCoroutine = false := by rfl) (hgen : scope.isGenerator = false := by rfl) (hk : scope.kind = .function := by rfl)
    (hcell : ∀ x ∈ scope.names, x.2 ≠ .cell := by decide) :
    codeG (model prog w) A (.call (.ref a) args) R s :=
  codeG.call_def hroom ho hdata hlim hcd rfl hbind hcell hloc (fun h₁ hns hkeep => h h₁ ⟨hns, hkeep, Nat.le_refl _⟩) hco hgen hk
def Word (v : Value) : Prop := ∃ x t, v = .int x t ∧ 0 ≤ x ∧ x < 65536
theorem wordsAre {f : Int → Int} (hf : ∀ k, 0 ≤ f k ∧ f k < 65536) : ∀ {ys : List Value} {ns : List Int}, IntsAre ys (ns.map f) → ∀ v ∈ ys, Word v
  | _, [], h => by cases h; exact fun v hv => nomatch hv
  | _, a :: r, h => by
    cases h with
    | cons t hr =>
      intro v hv
      rcases List.mem_cons.mp hv with rfl | hv
      · exact ⟨_, _, rfl, hf a⟩
      · exact wordsAre hf (ns := r) (by assumption) v hv
theorem absMod (k : Int) : 0 ≤ (if k < 0 then -k else k).fmod 65536 ∧ (if k < 0 then -k else k).fmod 65536 < 65536 := by
  rw [Int.fmod_eq_emod_of_nonneg _ (by decide)]; omega
theorem topT {p : Program} {loose : List Str} {mean : ExcName → Option Value} {mg mb : Str → Option Value} {h : Heap} (T : Top p loose mean mg mb h) :
    Top topProg (loose ++ (recsOf p).map (·.name) ++ (litsOf p).map (·.1) ++ (clssOf p loose).map (·.name)) mean mg mb h where
  g := T.g
  b := T.b
  nolimit := T.nolimit
  nodigits := T.nodigits
  fn := fun d hd => absurd (show d ∈ ([] : List DefRec) from hd) List.not_mem_nil
  own := fun o ho => absurd (show o ∈ ([] : List OwnSpec) from ho) List.not_mem_nil
  const := fun x d e => by cases (show (none : Option PyData) = some d from e)
  free := fun x h1 h2 _ _ _ => T.free x h1 (fun q => h2 (List.mem_append_left _ (List.mem_append_left _ (List.mem_append_left _ q))))
    (fun q => h2 (List.mem_append_left _ (List.mem_append_left _ (List.mem_append_right _ q)))) (fun q => h2 (List.mem_append_left _ (List.mem_append_right _ q))) fun q => h2 (List.mem_append_right _ q)
  builtins := T.builtins
  tab := fun d hd => absurd (show d ∈ ([] : List DefRec) from hd) List.not_mem_nil
  bmain := T.bmain
  seer := fun e => absurd (show false = true from e) Bool.false_ne_true
def WordsDone (s₁ : Shared) (L : Addr) (m : Str → Option Value) (f : Flow) (s' : Shared) : Prop :=
  f = .next ∧ ∃ D ys n h' tk', s' = { s₁ with heap := h', toks := tk' } ∧ Fr s₁.heap L h' (fun z => if z = Str.ofString "words" then some (.ref D) else m z) ∧
    News s₁.heap L h' [(D, { cls := .type "list", data := .seq (List.toArray ys) n })] ∧ (∀ v ∈ ys, Word v) ∧ ys.length ≤ 6
theorem wordsStep {prog : Program} {w : World} {A : Around} {s s₁ : Shared} {env : Env} {L : Addr} {h₁ : Heap} {m : Str → Option Value} {st : Stmt} {rest : List Stmt} {Q : Flow → Shared → Prop} (F : Fr s₁.heap L h₁ m)
    (h : wpAny (model prog w) A (execs [st] env) (WordsDone s₁ L m) NoE s)
    (k : ∀ D ys n h' tk', Fr s₁.heap L h' (fun z => if z = Str.ofString "words" then some (.ref D) else m z) → News s₁.heap L h' [(D, { cls := .type "list", data := .seq (List.toArray ys) n })] → (∀ v ∈ ys, Word v) → ys.length ≤ 6 →
      wpG (model prog w) A (execs rest env) Q { s₁ with heap := h', toks := tk' }) : wpG (model prog w) A (execs (st :: rest) env) Q s :=
  wpG.group (l₁ := [st]) (wpAny_mono h (fun f s' hd => by
    obtain ⟨rfl, D, ys, n, h', tk', rfl, F, N, hW, hl⟩ := hd
    exact k D ys n h' tk' F N hW hl) fun _ _ e => e)
def JK (x : Str) (m m' : Str → Option Value) : Prop := ∃ mk, m' = fun z => if z = x then mk else m z
theorem JK.zero {x : Str} {m : Str → Option Value} : JK x m m := ⟨m x, funext fun z => by by_cases h : z = x <;> simp [h]⟩
theorem JK.next {x : Str} {m : Str → Option Value} {mk v : Option Value} : JK x m (fun z => if z = x then v else if z = x then mk else m z) := ⟨v, funext fun z => by by_cases h : z = x <;> simp [h]⟩
theorem loopRangeK {prog : Program} {w : World} {A : Around} {R : Result → Shared → Prop} {E : Value → Shared → Prop} {s : Shared} {env : Env} {h₀ : Heap} {x : Str} {px : Pos} {body : List Stmt} {m : Str → Option Value} {keep : List (Addr × Obj)} {r : Addr} {n : Nat} {t u v : Tok} (hr : IsRange s.heap r 0 (n : Int) 1 t u v) (hn6 : n ≤ 6) (hh : A.handled = none) (F : Fr h₀ env.locals s.heap m) (N : News h₀ env.locals s.heap keep)
    (step : Later (∀ i t I oI h tk mk, i < n → Fr h₀ env.locals h (fun z => if z = x then mk else m z) → (∀ p ∈ keep, p.1 ≠ I) → News h₀ env.locals h ((I, oI) :: keep) →
      wpAny (model prog w) A (assign (.Name x px) env (.int (i : Int) t)) (fun _ s₂ => Later (wpG (model prog w) A (execs body env) (StepOK h₀ env.locals I oI keep (JK x m) s) s₂)) NoE { s with heap := h, toks := tk }))
    (hR : Later (∀ h' tk mk, Fr h₀ env.locals h' (fun z => if z = x then mk else m z) → News h₀ env.locals h' keep → R (.ok .next) { s with heap := h', toks := tk })) :
    wpAny (model prog w) A (pyIter (.ref r)) (fun it s₂ => codeG (model prog w) A (.forLoop (.Name x px) it body [] env) R s₂) E s :=
  loopRange hh F N hr hn6 (fun _ => JK x m) JK.zero (fun i t I oI h tk m₁ hi hJ F₁ hk N₁ => by
    obtain ⟨mk, rfl⟩ := hJ
    exact wpAny_mono (step.out i t I oI h tk mk hi F₁ hk N₁) (fun _ _ e => e.out) fun _ _ e => e) (fun h' tk m' F' N' hJ => by
    obtain ⟨mk, rfl⟩ := hJ
    exact hR.out h' tk mk F' N')
local macro_rules | `(tactic| walk_at "call builtin:len") => `(tactic| (refine stopL ?_))
local macro_rules | `(tactic| walk_at "call type:range") => `(tactic| (refine stopL ?_))
local macro_rules | `(tactic| walk_at "pyIter ref") => `(tactic| (refine stopL ?_))
local macro_rules | `(tactic| walk_at "subscriptTail") => `(tactic| (refine stopL ?_))
set_option maxRecDepth 100000 in
set_option maxHeartbeats 2500000 in
theorem lawHolds : PySem.Challenge.rw_jr0027_01.Holds := by
  refine Mine.hd (by rfl) (by kernel_rfl) (by kernel_rfl) ?_
  k_fill
  intro w s₀ s₁ mg mb G Y fa o pm cd doc dV kV ho hd hcd hD hmg hg args vals as hpre hlay hrd hwl hlo
  have mkS : StopAt [688, 695, 723, 730, 737, 681] := ⟨⟩
  have KX : (Mine.hd.heap_39 w.params).In s₁.heap := Y
  have V := (Ground.X G).2
  refine Ground.open G ?_
  intro T B D TE TW
  clear hmg G Y
  wrow_args hpre hlay hrd hwl hlo
  refine wpG.call ?_
  have he := Dflts.none hD rfl
  subst he
  refine callTopG (by decide) ho hd (Top.nolimit T) hcd (BindsTo.of_eq rfl) (locs rfl) fun h₁ F => ?_
  w_binds F
  have N0 := (News.nil : News _ _ _ []).at F
  have B0 := below_caller s₁.heap
  have D0 := ktsDicts_nil (g := s₁.heap)
  clear hd hD
  replace T := topT T
  clear B D TE TW V
  k_drop
  refine wpG.named fun Q9 hQ9 => ?_
  refine wordsStep F ?_ ?_
  · k_steps
    repeat' (refine Later.mk ?_; (first | ((with_reducible rename List.length _ ≤ 6 => hl9); refine lenWords (by k_asm) (by k_mem) (by assumption) (fun t' tk' => ?_)) | (k_dflt (refine range1_rows (by k_asm) (by k_asm) ?_); intro h' tk' t' u' v' hR' F' N' up') | ((with_reducible rename IsRange _ _ _ _ _ _ _ _ => hr9); k_dflt (refine loopRangeK hr9 (by assumption) (by rfl) (by k_asm) (by k_asm) ?_ ?_)) | ((with_reducible show wpAny _ _ (subscriptTail _ _ (Value.ref _) (Value.int _ _)) _ _ _); k_dflt (refine wordItem (by k_asm) (by k_mem) rfl rfl (by assumption) (by (simp only [List.size_toArray]; omega)) (by (simp only [List.size_toArray]; omega)) (by (simp only [List.size_toArray, sizeLine_eq]; omega)) ?_); intro x' t' b1' b2') | (k_here; (with_reducible show wpAny _ _ (call (Value.ref 681) _) _ _ _); k_dflt (refine cDays (by k_asm) (by k_asm) (by k_asm) (by k_asm) (by k_asm) (by k_room) (fun t' h' tk' F' N' => ?_)); (try k_sweep); (try dsimp only)) | (k_here; (with_reducible show wpAny _ _ (call (Value.ref 737) _) _ _ _); k_dflt (refine' cLawWord ?z9B ?z9F ?z9X ?z9N ?z9T ?z9d ?z9u ?z9XB ?z9TB ?z9D ?z9p ?z9q ?z9r ?z9s ?_; (case z9B => k_asm); (case z9F => k_asm); (case z9X => k_asm); (case z9N => k_asm); (case z9T => k_asm); (case z9d => k_room); (case z9u => first | exact Nat.le_of_ble_eq_true rfl | k_units); (case z9XB => assumption); (case z9TB => assumption); (case z9D => assumption); (case z9p => omega); (case z9q => omega); (case z9r => exact (modB _).1); (case z9s => exact (modB _).2); k_whole); intro g' h' tk' T9 F' B' X' T' D9 N'; k_dflt (replace F' := Fr.unturn T9 F'; replace N' := News.unturn T9 N'); clear B' X' T' D9 T9; (try dsimp only)) | (k_here; (with_reducible show wpAny _ _ (call (Value.ref 695) _) _ _ _); k_dflt (refine' cIsTime ?z9B ?z9F ?z9X ?z9N ?z9T ?z9d (fun hok' h' tk' F' N' => ?_) (fun hnt' h' tk' F' N' => ?_); (case z9B => k_asm); (case z9F => k_asm); (case z9X => k_asm); (case z9N => k_asm); (case z9T => k_asm); (case z9d => k_room); (all_goals k_whole)); (all_goals ((try k_sweep); (try dsimp only)))) | (k_here; (with_reducible show wpAny _ _ (call (Value.ref 688) _) _ _ _); k_dflt (refine' cIsDay ?z9B ?z9F ?z9X ?z9N ?z9T ?z9d (fun hok' h' tk' F' N' => ?_) (fun hnt' h' tk' F' N' => ?_); (case z9B => k_asm); (case z9F => k_asm); (case z9X => k_asm); (case z9N => k_asm); (case z9T => k_asm); (case z9d => k_room); (all_goals k_whole)); (all_goals ((try k_sweep); (try dsimp only)))) | (k_here; (with_reducible show wpAny _ _ (call (Value.ref 723) _) _ _ _); k_dflt (refine' cLawWide ?z9B ?z9F ?z9X ?z9N ?z9T ?z9d ?_; (case z9B => k_asm); (case z9F => k_asm); (case z9X => k_asm); (case z9N => k_asm); (case z9T => k_asm); (case z9d => k_room); k_whole); intro xw' tw' h' tk' F' N'; (try k_sweep); (try dsimp only)) | (k_here; (with_reducible show wpAny _ _ (call (Value.ref 730) [Value.int 1 _, _]) _ _ _); k_dflt (refine' cMade1 ?z9B ?z9F ?z9X ?z9N ?z9T ?z9d ?z9u ?z9XB ?z9TB ?z9D ?z9m (fun hok' l' g' h' tk' T9 F' B' X' T' D9 N' => ?_) (fun hnt' g' h' tk' T9 F' B' X' T' D9 N' => ?_); (case z9B => k_asm); (case z9F => k_asm); (case z9X => k_asm); (case z9N => k_asm); (case z9T => k_asm); (case z9d => k_room); (case z9u => exact Nat.le_of_ble_eq_true rfl); (case z9XB => assumption); (case z9TB => assumption); (case z9D => assumption); (case z9m => k_mem); (all_goals k_whole)); (all_goals (k_dflt (replace F' := Fr.unturn T9 F'; replace N' := News.unturn T9 N'); clear B' X' T' D9 T9; (try (first | exact absurd hok' (by assumption) | exact absurd (by assumption) hnt')); (try k_sweep); (try dsimp only)))) | (k_here; (with_reducible show wpAny _ _ (call (Value.ref 730) [Value.int 0 _, _]) _ _ _); k_dflt (refine' cMade0 ?z9B ?z9F ?z9X ?z9N ?z9T ?z9d ?z9u ?z9XB ?z9TB ?z9D ?z9m (fun hda' hok' l' g' h' tk' T9 F' B' X' T' D9 N' => ?_) (fun hnt' g' h' tk' T9 F' B' X' T' D9 N' => ?_); (case z9B => k_asm); (case z9F => k_asm); (case z9X => k_asm); (case z9N => k_asm); (case z9T => k_asm); (case z9d => k_room); (case z9u => exact Nat.le_of_ble_eq_true rfl); (case z9XB => assumption); (case z9TB => assumption); (case z9D => assumption); (case z9m => k_mem); (all_goals k_whole)); (all_goals (k_dflt (replace F' := Fr.unturn T9 F'; replace N' := News.unturn T9 N'); clear B' X' T' D9 T9; (try (first | exact absurd hda' (by assumption) | exact absurd hok' (by assumption) | exact absurd (And.intro (by assumption) (by assumption)) hnt')); (try k_sweep); (try dsimp only))))); k_steps)
    · refine ⟨rfl, _, _, _, _, _, rfl, by assumption, News.drop9 (by assumption) (subC (by k_mem) (fun _ h => nomatch h)), wordsAre absMod (by assumption), ?_⟩
      rename_i hL8 _ _ _ _ _ _
      simp only [List.length_map, List.length_take] at hL8
      omega
    · refine ⟨rfl, _, [_], _, _, _, rfl, by assumption, News.drop9 (by assumption) (subC (by k_mem) (fun _ h => nomatch h)), fun v hv => ?_, Nat.le_of_ble_eq_true rfl⟩
      rw [List.mem_singleton.mp hv]
      exact ⟨_, _, rfl, absMod 0⟩
  clear F N0 h₁
  intro D ys n h₂ tk₂ F N hW hlen
  refine wpG.cons (wpG_For ?_)
  k_steps
  repeat' (refine Later.mk ?_; (first | ((with_reducible rename List.length _ ≤ 6 => hl9); refine lenWords (by k_asm) (by k_mem) (by assumption) (fun t' tk' => ?_)) | (k_dflt (refine range1_rows (by k_asm) (by k_asm) ?_); intro h' tk' t' u' v' hR' F' N' up') | ((with_reducible rename IsRange _ _ _ _ _ _ _ _ => hr9); k_dflt (refine loopRangeK hr9 (by assumption) (by rfl) (by k_asm) (by k_asm) ?_ ?_)) | ((with_reducible show wpAny _ _ (subscriptTail _ _ (Value.ref _) (Value.int _ _)) _ _ _); k_dflt (refine wordItem (by k_asm) (by k_mem) rfl rfl (by assumption) (by (simp only [List.size_toArray]; omega)) (by (simp only [List.size_toArray]; omega)) (by (simp only [List.size_toArray, sizeLine_eq]; omega)) ?_); intro x' t' b1' b2') | (k_here; (with_reducible show wpAny _ _ (call (Value.ref 681) _) _ _ _); k_dflt (refine cDays (by k_asm) (by k_asm) (by k_asm) (by k_asm) (by k_asm) (by k_room) (fun t' h' tk' F' N' => ?_)); (try k_sweep); (try dsimp only)) | (k_here; (with_reducible show wpAny _ _ (call (Value.ref 737) _) _ _ _); k_dflt (refine' cLawWord ?z9B ?z9F ?z9X ?z9N ?z9T ?z9d ?z9u ?z9XB ?z9TB ?z9D ?z9p ?z9q ?z9r ?z9s ?_; (case z9B => k_asm); (case z9F => k_asm); (case z9X => k_asm); (case z9N => k_asm); (case z9T => k_asm); (case z9d => k_room); (case z9u => first | exact Nat.le_of_ble_eq_true rfl | k_units); (case z9XB => assumption); (case z9TB => assumption); (case z9D => assumption); (case z9p => omega); (case z9q => omega); (case z9r => exact (modB _).1); (case z9s => exact (modB _).2); k_whole); intro g' h' tk' T9 F' B' X' T' D9 N'; k_dflt (replace F' := Fr.unturn T9 F'; replace N' := News.unturn T9 N'); clear B' X' T' D9 T9; (try dsimp only)) | (k_here; (with_reducible show wpAny _ _ (call (Value.ref 695) _) _ _ _); k_dflt (refine' cIsTime ?z9B ?z9F ?z9X ?z9N ?z9T ?z9d (fun hok' h' tk' F' N' => ?_) (fun hnt' h' tk' F' N' => ?_); (case z9B => k_asm); (case z9F => k_asm); (case z9X => k_asm); (case z9N => k_asm); (case z9T => k_asm); (case z9d => k_room); (all_goals k_whole)); (all_goals ((try k_sweep); (try dsimp only)))) | (k_here; (with_reducible show wpAny _ _ (call (Value.ref 688) _) _ _ _); k_dflt (refine' cIsDay ?z9B ?z9F ?z9X ?z9N ?z9T ?z9d (fun hok' h' tk' F' N' => ?_) (fun hnt' h' tk' F' N' => ?_); (case z9B => k_asm); (case z9F => k_asm); (case z9X => k_asm); (case z9N => k_asm); (case z9T => k_asm); (case z9d => k_room); (all_goals k_whole)); (all_goals ((try k_sweep); (try dsimp only)))) | (k_here; (with_reducible show wpAny _ _ (call (Value.ref 723) _) _ _ _); k_dflt (refine' cLawWide ?z9B ?z9F ?z9X ?z9N ?z9T ?z9d ?_; (case z9B => k_asm); (case z9F => k_asm); (case z9X => k_asm); (case z9N => k_asm); (case z9T => k_asm); (case z9d => k_room); k_whole); intro xw' tw' h' tk' F' N'; (try k_sweep); (try dsimp only)) | (k_here; (with_reducible show wpAny _ _ (call (Value.ref 730) [Value.int 1 _, _]) _ _ _); k_dflt (refine' cMade1 ?z9B ?z9F ?z9X ?z9N ?z9T ?z9d ?z9u ?z9XB ?z9TB ?z9D ?z9m (fun hok' l' g' h' tk' T9 F' B' X' T' D9 N' => ?_) (fun hnt' g' h' tk' T9 F' B' X' T' D9 N' => ?_); (case z9B => k_asm); (case z9F => k_asm); (case z9X => k_asm); (case z9N => k_asm); (case z9T => k_asm); (case z9d => k_room); (case z9u => exact Nat.le_of_ble_eq_true rfl); (case z9XB => assumption); (case z9TB => assumption); (case z9D => assumption); (case z9m => k_mem); (all_goals k_whole)); (all_goals (k_dflt (replace F' := Fr.unturn T9 F'; replace N' := News.unturn T9 N'); clear B' X' T' D9 T9; (try (first | exact absurd hok' (by assumption) | exact absurd (by assumption) hnt')); (try k_sweep); (try dsimp only)))) | (k_here; (with_reducible show wpAny _ _ (call (Value.ref 730) [Value.int 0 _, _]) _ _ _); k_dflt (refine' cMade0 ?z9B ?z9F ?z9X ?z9N ?z9T ?z9d ?z9u ?z9XB ?z9TB ?z9D ?z9m (fun hda' hok' l' g' h' tk' T9 F' B' X' T' D9 N' => ?_) (fun hnt' g' h' tk' T9 F' B' X' T' D9 N' => ?_); (case z9B => k_asm); (case z9F => k_asm); (case z9X => k_asm); (case z9N => k_asm); (case z9T => k_asm); (case z9d => k_room); (case z9u => exact Nat.le_of_ble_eq_true rfl); (case z9XB => assumption); (case z9TB => assumption); (case z9D => assumption); (case z9m => k_mem); (all_goals k_whole)); (all_goals (k_dflt (replace F' := Fr.unturn T9 F'; replace N' := News.unturn T9 N'); clear B' X' T' D9 T9; (try (first | exact absurd hda' (by assumption) | exact absurd hok' (by assumption) | exact absurd (And.intro (by assumption) (by assumption)) hnt')); (try k_sweep); (try dsimp only))))); k_steps)
  · refine ⟨fun i t I oI h₃ tk₃ mk hi F₃ hk N₃ => ?_⟩
    k_steps
    repeat' (refine Later.mk ?_; (first | ((with_reducible rename List.length _ ≤ 6 => hl9); refine lenWords (by k_asm) (by k_mem) (by assumption) (fun t' tk' => ?_)) | (k_dflt (refine range1_rows (by k_asm) (by k_asm) ?_); intro h' tk' t' u' v' hR' F' N' up') | ((with_reducible rename IsRange _ _ _ _ _ _ _ _ => hr9); k_dflt (refine loopRangeK hr9 (by assumption) (by rfl) (by k_asm) (by k_asm) ?_ ?_)) | ((with_reducible show wpAny _ _ (subscriptTail _ _ (Value.ref _) (Value.int _ _)) _ _ _); k_dflt (refine wordItem (by k_asm) (by k_mem) rfl rfl (by assumption) (by (simp only [List.size_toArray]; omega)) (by (simp only [List.size_toArray]; omega)) (by (simp only [List.size_toArray, sizeLine_eq]; omega)) ?_); intro x' t' b1' b2') | (k_here; (with_reducible show wpAny _ _ (call (Value.ref 681) _) _ _ _); k_dflt (refine cDays (by k_asm) (by k_asm) (by k_asm) (by k_asm) (by k_asm) (by k_room) (fun t' h' tk' F' N' => ?_)); (try k_sweep); (try dsimp only)) | (k_here; (with_reducible show wpAny _ _ (call (Value.ref 737) _) _ _ _); k_dflt (refine' cLawWord ?z9B ?z9F ?z9X ?z9N ?z9T ?z9d ?z9u ?z9XB ?z9TB ?z9D ?z9p ?z9q ?z9r ?z9s ?_; (case z9B => k_asm); (case z9F => k_asm); (case z9X => k_asm); (case z9N => k_asm); (case z9T => k_asm); (case z9d => k_room); (case z9u => first | exact Nat.le_of_ble_eq_true rfl | k_units); (case z9XB => assumption); (case z9TB => assumption); (case z9D => assumption); (case z9p => omega); (case z9q => omega); (case z9r => exact (modB _).1); (case z9s => exact (modB _).2); k_whole); intro g' h' tk' T9 F' B' X' T' D9 N'; k_dflt (replace F' := Fr.unturn T9 F'; replace N' := News.unturn T9 N'); clear B' X' T' D9 T9; (try dsimp only)) | (k_here; (with_reducible show wpAny _ _ (call (Value.ref 695) _) _ _ _); k_dflt (refine' cIsTime ?z9B ?z9F ?z9X ?z9N ?z9T ?z9d (fun hok' h' tk' F' N' => ?_) (fun hnt' h' tk' F' N' => ?_); (case z9B => k_asm); (case z9F => k_asm); (case z9X => k_asm); (case z9N => k_asm); (case z9T => k_asm); (case z9d => k_room); (all_goals k_whole)); (all_goals ((try k_sweep); (try dsimp only)))) | (k_here; (with_reducible show wpAny _ _ (call (Value.ref 688) _) _ _ _); k_dflt (refine' cIsDay ?z9B ?z9F ?z9X ?z9N ?z9T ?z9d (fun hok' h' tk' F' N' => ?_) (fun hnt' h' tk' F' N' => ?_); (case z9B => k_asm); (case z9F => k_asm); (case z9X => k_asm); (case z9N => k_asm); (case z9T => k_asm); (case z9d => k_room); (all_goals k_whole)); (all_goals ((try k_sweep); (try dsimp only)))) | (k_here; (with_reducible show wpAny _ _ (call (Value.ref 723) _) _ _ _); k_dflt (refine' cLawWide ?z9B ?z9F ?z9X ?z9N ?z9T ?z9d ?_; (case z9B => k_asm); (case z9F => k_asm); (case z9X => k_asm); (case z9N => k_asm); (case z9T => k_asm); (case z9d => k_room); k_whole); intro xw' tw' h' tk' F' N'; (try k_sweep); (try dsimp only)) | (k_here; (with_reducible show wpAny _ _ (call (Value.ref 730) [Value.int 1 _, _]) _ _ _); k_dflt (refine' cMade1 ?z9B ?z9F ?z9X ?z9N ?z9T ?z9d ?z9u ?z9XB ?z9TB ?z9D ?z9m (fun hok' l' g' h' tk' T9 F' B' X' T' D9 N' => ?_) (fun hnt' g' h' tk' T9 F' B' X' T' D9 N' => ?_); (case z9B => k_asm); (case z9F => k_asm); (case z9X => k_asm); (case z9N => k_asm); (case z9T => k_asm); (case z9d => k_room); (case z9u => exact Nat.le_of_ble_eq_true rfl); (case z9XB => assumption); (case z9TB => assumption); (case z9D => assumption); (case z9m => k_mem); (all_goals k_whole)); (all_goals (k_dflt (replace F' := Fr.unturn T9 F'; replace N' := News.unturn T9 N'); clear B' X' T' D9 T9; (try (first | exact absurd hok' (by assumption) | exact absurd (by assumption) hnt')); (try k_sweep); (try dsimp only)))) | (k_here; (with_reducible show wpAny _ _ (call (Value.ref 730) [Value.int 0 _, _]) _ _ _); k_dflt (refine' cMade0 ?z9B ?z9F ?z9X ?z9N ?z9T ?z9d ?z9u ?z9XB ?z9TB ?z9D ?z9m (fun hda' hok' l' g' h' tk' T9 F' B' X' T' D9 N' => ?_) (fun hnt' g' h' tk' T9 F' B' X' T' D9 N' => ?_); (case z9B => k_asm); (case z9F => k_asm); (case z9X => k_asm); (case z9N => k_asm); (case z9T => k_asm); (case z9d => k_room); (case z9u => exact Nat.le_of_ble_eq_true rfl); (case z9XB => assumption); (case z9TB => assumption); (case z9D => assumption); (case z9m => k_mem); (all_goals k_whole)); (all_goals (k_dflt (replace F' := Fr.unturn T9 F'; replace N' := News.unturn T9 N'); clear B' X' T' D9 T9; (try (first | exact absurd hda' (by assumption) | exact absurd hok' (by assumption) | exact absurd (And.intro (by assumption) (by assumption)) hnt')); (try k_sweep); (try dsimp only))))); k_steps)
    refine ⟨?_⟩
    refine wpG.cons (wpG_If (wpG_isOr (wpG_isNot (wpG_isPlain (wpG.any ?_)))))
    k_steps
    repeat' (refine Later.mk ?_; (first | ((with_reducible rename List.length _ ≤ 6 => hl9); refine lenWords (by k_asm) (by k_mem) (by assumption) (fun t' tk' => ?_)) | (k_dflt (refine range1_rows (by k_asm) (by k_asm) ?_); intro h' tk' t' u' v' hR' F' N' up') | ((with_reducible rename IsRange _ _ _ _ _ _ _ _ => hr9); k_dflt (refine loopRangeK hr9 (by assumption) (by rfl) (by k_asm) (by k_asm) ?_ ?_)) | ((with_reducible show wpAny _ _ (subscriptTail _ _ (Value.ref _) (Value.int _ _)) _ _ _); k_dflt (refine wordItem (by k_asm) (by k_mem) rfl rfl (by assumption) (by (simp only [List.size_toArray]; omega)) (by (simp only [List.size_toArray]; omega)) (by (simp only [List.size_toArray, sizeLine_eq]; omega)) ?_); intro x' t' b1' b2') | (k_here; (with_reducible show wpAny _ _ (call (Value.ref 681) _) _ _ _); k_dflt (refine cDays (by k_asm) (by k_asm) (by k_asm) (by k_asm) (by k_asm) (by k_room) (fun t' h' tk' F' N' => ?_)); (try k_sweep); (try dsimp only)) | (k_here; (with_reducible show wpAny _ _ (call (Value.ref 737) _) _ _ _); k_dflt (refine' cLawWord ?z9B ?z9F ?z9X ?z9N ?z9T ?z9d ?z9u ?z9XB ?z9TB ?z9D ?z9p ?z9q ?z9r ?z9s ?_; (case z9B => k_asm); (case z9F => k_asm); (case z9X => k_asm); (case z9N => k_asm); (case z9T => k_asm); (case z9d => k_room); (case z9u => first | exact Nat.le_of_ble_eq_true rfl | k_units); (case z9XB => assumption); (case z9TB => assumption); (case z9D => assumption); (case z9p => omega); (case z9q => omega); (case z9r => exact (modB _).1); (case z9s => exact (modB _).2); k_whole); intro g' h' tk' T9 F' B' X' T' D9 N'; k_dflt (replace F' := Fr.unturn T9 F'; replace N' := News.unturn T9 N'); clear B' X' T' D9 T9; (try dsimp only)) | (k_here; (with_reducible show wpAny _ _ (call (Value.ref 695) _) _ _ _); k_dflt (refine' cIsTime ?z9B ?z9F ?z9X ?z9N ?z9T ?z9d (fun hok' h' tk' F' N' => ?_) (fun hnt' h' tk' F' N' => ?_); (case z9B => k_asm); (case z9F => k_asm); (case z9X => k_asm); (case z9N => k_asm); (case z9T => k_asm); (case z9d => k_room); (all_goals k_whole)); (all_goals ((try k_sweep); (try dsimp only)))) | (k_here; (with_reducible show wpAny _ _ (call (Value.ref 688) _) _ _ _); k_dflt (refine' cIsDay ?z9B ?z9F ?z9X ?z9N ?z9T ?z9d (fun hok' h' tk' F' N' => ?_) (fun hnt' h' tk' F' N' => ?_); (case z9B => k_asm); (case z9F => k_asm); (case z9X => k_asm); (case z9N => k_asm); (case z9T => k_asm); (case z9d => k_room); (all_goals k_whole)); (all_goals ((try k_sweep); (try dsimp only)))) | (k_here; (with_reducible show wpAny _ _ (call (Value.ref 723) _) _ _ _); k_dflt (refine' cLawWide ?z9B ?z9F ?z9X ?z9N ?z9T ?z9d ?_; (case z9B => k_asm); (case z9F => k_asm); (case z9X => k_asm); (case z9N => k_asm); (case z9T => k_asm); (case z9d => k_room); k_whole); intro xw' tw' h' tk' F' N'; (try k_sweep); (try dsimp only)) | (k_here; (with_reducible show wpAny _ _ (call (Value.ref 730) [Value.int 1 _, _]) _ _ _); k_dflt (refine' cMade1 ?z9B ?z9F ?z9X ?z9N ?z9T ?z9d ?z9u ?z9XB ?z9TB ?z9D ?z9m (fun hok' l' g' h' tk' T9 F' B' X' T' D9 N' => ?_) (fun hnt' g' h' tk' T9 F' B' X' T' D9 N' => ?_); (case z9B => k_asm); (case z9F => k_asm); (case z9X => k_asm); (case z9N => k_asm); (case z9T => k_asm); (case z9d => k_room); (case z9u => exact Nat.le_of_ble_eq_true rfl); (case z9XB => assumption); (case z9TB => assumption); (case z9D => assumption); (case z9m => k_mem); (all_goals k_whole)); (all_goals (k_dflt (replace F' := Fr.unturn T9 F'; replace N' := News.unturn T9 N'); clear B' X' T' D9 T9; (try (first | exact absurd hok' (by assumption) | exact absurd (by assumption) hnt')); (try k_sweep); (try dsimp only)))) | (k_here; (with_reducible show wpAny _ _ (call (Value.ref 730) [Value.int 0 _, _]) _ _ _); k_dflt (refine' cMade0 ?z9B ?z9F ?z9X ?z9N ?z9T ?z9d ?z9u ?z9XB ?z9TB ?z9D ?z9m (fun hda' hok' l' g' h' tk' T9 F' B' X' T' D9 N' => ?_) (fun hnt' g' h' tk' T9 F' B' X' T' D9 N' => ?_); (case z9B => k_asm); (case z9F => k_asm); (case z9X => k_asm); (case z9N => k_asm); (case z9T => k_asm); (case z9d => k_room); (case z9u => exact Nat.le_of_ble_eq_true rfl); (case z9XB => assumption); (case z9TB => assumption); (case z9D => assumption); (case z9m => k_mem); (all_goals k_whole)); (all_goals (k_dflt (replace F' := Fr.unturn T9 F'; replace N' := News.unturn T9 N'); clear B' X' T' D9 T9; (try (first | exact absurd hda' (by assumption) | exact absurd hok' (by assumption) | exact absurd (And.intro (by assumption) (by assumption)) hnt')); (try k_sweep); (try dsimp only))))); k_steps)
    refine wpG_isOr (wpG_isNot (wpG_isPlain (wpG_Call_ ?_)))
    k_steps
    repeat' (refine Later.mk ?_; (first | ((with_reducible rename List.length _ ≤ 6 => hl9); refine lenWords (by k_asm) (by k_mem) (by assumption) (fun t' tk' => ?_)) | (k_dflt (refine range1_rows (by k_asm) (by k_asm) ?_); intro h' tk' t' u' v' hR' F' N' up') | ((with_reducible rename IsRange _ _ _ _ _ _ _ _ => hr9); k_dflt (refine loopRangeK hr9 (by assumption) (by rfl) (by k_asm) (by k_asm) ?_ ?_)) | ((with_reducible show wpAny _ _ (subscriptTail _ _ (Value.ref _) (Value.int _ _)) _ _ _); k_dflt (refine wordItem (by k_asm) (by k_mem) rfl rfl (by assumption) (by (simp only [List.size_toArray]; omega)) (by (simp only [List.size_toArray]; omega)) (by (simp only [List.size_toArray, sizeLine_eq]; omega)) ?_); intro x' t' b1' b2') | (k_here; (with_reducible show wpAny _ _ (call (Value.ref 681) _) _ _ _); k_dflt (refine cDays (by k_asm) (by k_asm) (by k_asm) (by k_asm) (by k_asm) (by k_room) (fun t' h' tk' F' N' => ?_)); (try k_sweep); (try dsimp only)) | (k_here; (with_reducible show wpAny _ _ (call (Value.ref 737) _) _ _ _); k_dflt (refine' cLawWord ?z9B ?z9F ?z9X ?z9N ?z9T ?z9d ?z9u ?z9XB ?z9TB ?z9D ?z9p ?z9q ?z9r ?z9s ?_; (case z9B => k_asm); (case z9F => k_asm); (case z9X => k_asm); (case z9N => k_asm); (case z9T => k_asm); (case z9d => k_room); (case z9u => first | exact Nat.le_of_ble_eq_true rfl | k_units); (case z9XB => assumption); (case z9TB => assumption); (case z9D => assumption); (case z9p => omega); (case z9q => omega); (case z9r => exact (modB _).1); (case z9s => exact (modB _).2); k_whole); intro g' h' tk' T9 F' B' X' T' D9 N'; k_dflt (replace F' := Fr.unturn T9 F'; replace N' := News.unturn T9 N'); clear B' X' T' D9 T9; (try dsimp only)) | (k_here; (with_reducible show wpAny _ _ (call (Value.ref 695) _) _ _ _); k_dflt (refine' cIsTime ?z9B ?z9F ?z9X ?z9N ?z9T ?z9d (fun hok' h' tk' F' N' => ?_) (fun hnt' h' tk' F' N' => ?_); (case z9B => k_asm); (case z9F => k_asm); (case z9X => k_asm); (case z9N => k_asm); (case z9T => k_asm); (case z9d => k_room); (all_goals k_whole)); (all_goals ((try k_sweep); (try dsimp only)))) | (k_here; (with_reducible show wpAny _ _ (call (Value.ref 688) _) _ _ _); k_dflt (refine' cIsDay ?z9B ?z9F ?z9X ?z9N ?z9T ?z9d (fun hok' h' tk' F' N' => ?_) (fun hnt' h' tk' F' N' => ?_); (case z9B => k_asm); (case z9F => k_asm); (case z9X => k_asm); (case z9N => k_asm); (case z9T => k_asm); (case z9d => k_room); (all_goals k_whole)); (all_goals ((try k_sweep); (try dsimp only)))) | (k_here; (with_reducible show wpAny _ _ (call (Value.ref 723) _) _ _ _); k_dflt (refine' cLawWide ?z9B ?z9F ?z9X ?z9N ?z9T ?z9d ?_; (case z9B => k_asm); (case z9F => k_asm); (case z9X => k_asm); (case z9N => k_asm); (case z9T => k_asm); (case z9d => k_room); k_whole); intro xw' tw' h' tk' F' N'; (try k_sweep); (try dsimp only)) | (k_here; (with_reducible show wpAny _ _ (call (Value.ref 730) [Value.int 1 _, _]) _ _ _); k_dflt (refine' cMade1 ?z9B ?z9F ?z9X ?z9N ?z9T ?z9d ?z9u ?z9XB ?z9TB ?z9D ?z9m (fun hok' l' g' h' tk' T9 F' B' X' T' D9 N' => ?_) (fun hnt' g' h' tk' T9 F' B' X' T' D9 N' => ?_); (case z9B => k_asm); (case z9F => k_asm); (case z9X => k_asm); (case z9N => k_asm); (case z9T => k_asm); (case z9d => k_room); (case z9u => exact Nat.le_of_ble_eq_true rfl); (case z9XB => assumption); (case z9TB => assumption); (case z9D => assumption); (case z9m => k_mem); (all_goals k_whole)); (all_goals (k_dflt (replace F' := Fr.unturn T9 F'; replace N' := News.unturn T9 N'); clear B' X' T' D9 T9; (try (first | exact absurd hok' (by assumption) | exact absurd (by assumption) hnt')); (try k_sweep); (try dsimp only)))) | (k_here; (with_reducible show wpAny _ _ (call (Value.ref 730) [Value.int 0 _, _]) _ _ _); k_dflt (refine' cMade0 ?z9B ?z9F ?z9X ?z9N ?z9T ?z9d ?z9u ?z9XB ?z9TB ?z9D ?z9m (fun hda' hok' l' g' h' tk' T9 F' B' X' T' D9 N' => ?_) (fun hnt' g' h' tk' T9 F' B' X' T' D9 N' => ?_); (case z9B => k_asm); (case z9F => k_asm); (case z9X => k_asm); (case z9N => k_asm); (case z9T => k_asm); (case z9d => k_room); (case z9u => exact Nat.le_of_ble_eq_true rfl); (case z9XB => assumption); (case z9TB => assumption); (case z9D => assumption); (case z9m => k_mem); (all_goals k_whole)); (all_goals (k_dflt (replace F' := Fr.unturn T9 F'; replace N' := News.unturn T9 N'); clear B' X' T' D9 T9; (try (first | exact absurd hda' (by assumption) | exact absurd hok' (by assumption) | exact absurd (And.intro (by assumption) (by assumption)) hnt')); (try k_sweep); (try dsimp only))))); k_steps)
    refine wpG_callWith_K (h₀ := s₁.heap) (K := Mine.hd.heap_39 w.params) (by k_is) ?_
    k_steps
    repeat' (refine Later.mk ?_; (first | ((with_reducible rename List.length _ ≤ 6 => hl9); refine lenWords (by k_asm) (by k_mem) (by assumption) (fun t' tk' => ?_)) | (k_dflt (refine range1_rows (by k_asm) (by k_asm) ?_); intro h' tk' t' u' v' hR' F' N' up') | ((with_reducible rename IsRange _ _ _ _ _ _ _ _ => hr9); k_dflt (refine loopRangeK hr9 (by assumption) (by rfl) (by k_asm) (by k_asm) ?_ ?_)) | ((with_reducible show wpAny _ _ (subscriptTail _ _ (Value.ref _) (Value.int _ _)) _ _ _); k_dflt (refine wordItem (by k_asm) (by k_mem) rfl rfl (by assumption) (by (simp only [List.size_toArray]; omega)) (by (simp only [List.size_toArray]; omega)) (by (simp only [List.size_toArray, sizeLine_eq]; omega)) ?_); intro x' t' b1' b2') | (k_here; (with_reducible show wpAny _ _ (call (Value.ref 681) _) _ _ _); k_dflt (refine cDays (by k_asm) (by k_asm) (by k_asm) (by k_asm) (by k_asm) (by k_room) (fun t' h' tk' F' N' => ?_)); (try k_sweep); (try dsimp only)) | (k_here; (with_reducible show wpAny _ _ (call (Value.ref 737) _) _ _ _); k_dflt (refine' cLawWord ?z9B ?z9F ?z9X ?z9N ?z9T ?z9d ?z9u ?z9XB ?z9TB ?z9D ?z9p ?z9q ?z9r ?z9s ?_; (case z9B => k_asm); (case z9F => k_asm); (case z9X => k_asm); (case z9N => k_asm); (case z9T => k_asm); (case z9d => k_room); (case z9u => first | exact Nat.le_of_ble_eq_true rfl | k_units); (case z9XB => assumption); (case z9TB => assumption); (case z9D => assumption); (case z9p => omega); (case z9q => omega); (case z9r => exact (modB _).1); (case z9s => exact (modB _).2); k_whole); intro g' h' tk' T9 F' B' X' T' D9 N'; k_dflt (replace F' := Fr.unturn T9 F'; replace N' := News.unturn T9 N'); clear B' X' T' D9 T9; (try dsimp only)) | (k_here; (with_reducible show wpAny _ _ (call (Value.ref 695) _) _ _ _); k_dflt (refine' cIsTime ?z9B ?z9F ?z9X ?z9N ?z9T ?z9d (fun hok' h' tk' F' N' => ?_) (fun hnt' h' tk' F' N' => ?_); (case z9B => k_asm); (case z9F => k_asm); (case z9X => k_asm); (case z9N => k_asm); (case z9T => k_asm); (case z9d => k_room); (all_goals k_whole)); (all_goals ((try k_sweep); (try dsimp only)))) | (k_here; (with_reducible show wpAny _ _ (call (Value.ref 688) _) _ _ _); k_dflt (refine' cIsDay ?z9B ?z9F ?z9X ?z9N ?z9T ?z9d (fun hok' h' tk' F' N' => ?_) (fun hnt' h' tk' F' N' => ?_); (case z9B => k_asm); (case z9F => k_asm); (case z9X => k_asm); (case z9N => k_asm); (case z9T => k_asm); (case z9d => k_room); (all_goals k_whole)); (all_goals ((try k_sweep); (try dsimp only)))) | (k_here; (with_reducible show wpAny _ _ (call (Value.ref 723) _) _ _ _); k_dflt (refine' cLawWide ?z9B ?z9F ?z9X ?z9N ?z9T ?z9d ?_; (case z9B => k_asm); (case z9F => k_asm); (case z9X => k_asm); (case z9N => k_asm); (case z9T => k_asm); (case z9d => k_room); k_whole); intro xw' tw' h' tk' F' N'; (try k_sweep); (try dsimp only)) | (k_here; (with_reducible show wpAny _ _ (call (Value.ref 730) [Value.int 1 _, _]) _ _ _); k_dflt (refine' cMade1 ?z9B ?z9F ?z9X ?z9N ?z9T ?z9d ?z9u ?z9XB ?z9TB ?z9D ?z9m (fun hok' l' g' h' tk' T9 F' B' X' T' D9 N' => ?_) (fun hnt' g' h' tk' T9 F' B' X' T' D9 N' => ?_); (case z9B => k_asm); (case z9F => k_asm); (case z9X => k_asm); (case z9N => k_asm); (case z9T => k_asm); (case z9d => k_room); (case z9u => exact Nat.le_of_ble_eq_true rfl); (case z9XB => assumption); (case z9TB => assumption); (case z9D => assumption); (case z9m => k_mem); (all_goals k_whole)); (all_goals (k_dflt (replace F' := Fr.unturn T9 F'; replace N' := News.unturn T9 N'); clear B' X' T' D9 T9; (try (first | exact absurd hok' (by assumption) | exact absurd (by assumption) hnt')); (try k_sweep); (try dsimp only)))) | (k_here; (with_reducible show wpAny _ _ (call (Value.ref 730) [Value.int 0 _, _]) _ _ _); k_dflt (refine' cMade0 ?z9B ?z9F ?z9X ?z9N ?z9T ?z9d ?z9u ?z9XB ?z9TB ?z9D ?z9m (fun hda' hok' l' g' h' tk' T9 F' B' X' T' D9 N' => ?_) (fun hnt' g' h' tk' T9 F' B' X' T' D9 N' => ?_); (case z9B => k_asm); (case z9F => k_asm); (case z9X => k_asm); (case z9N => k_asm); (case z9T => k_asm); (case z9d => k_room); (case z9u => exact Nat.le_of_ble_eq_true rfl); (case z9XB => assumption); (case z9TB => assumption); (case z9D => assumption); (case z9m => k_mem); (all_goals k_whole)); (all_goals (k_dflt (replace F' := Fr.unturn T9 F'; replace N' := News.unturn T9 N'); clear B' X' T' D9 T9; (try (first | exact absurd hda' (by assumption) | exact absurd hok' (by assumption) | exact absurd (And.intro (by assumption) (by assumption)) hnt')); (try k_sweep); (try dsimp only))))); k_steps)
    (try dsimp only [List.cons_append, List.nil_append])
    k_dflt (refine' cLawEntry ?z9B ?z9F ?z9X ?z9T ?z9d ?z9u ?z9XB ?z9TB ?z9D ?z9N ?z9p ?z9q ?_)
    (case z9B => k_asm)
    (case z9F => k_asm)
    (case z9X => k_asm)
    (case z9T => k_asm)
    (case z9d => k_room)
    (case z9u => exact Nat.le_of_ble_eq_true rfl)
    (case z9XB => assumption)
    (case z9TB => assumption)
    (case z9D => assumption)
    (case z9N => k_asm)
    (case z9p => omega)
    (case z9q => omega)
    intro g' h' tk' T9 F' B' X' T' D9 N'
    replace F' := Fr.unturn T9 F'
    replace N' := News.unturn T9 N'
    clear B' X' T' D9 T9
    dsimp only
    k_steps
    repeat' (refine Later.mk ?_; (first | ((with_reducible rename List.length _ ≤ 6 => hl9); refine lenWords (by k_asm) (by k_mem) (by assumption) (fun t' tk' => ?_)) | (k_dflt (refine range1_rows (by k_asm) (by k_asm) ?_); intro h' tk' t' u' v' hR' F' N' up') | ((with_reducible rename IsRange _ _ _ _ _ _ _ _ => hr9); k_dflt (refine loopRangeK hr9 (by assumption) (by rfl) (by k_asm) (by k_asm) ?_ ?_)) | ((with_reducible show wpAny _ _ (subscriptTail _ _ (Value.ref _) (Value.int _ _)) _ _ _); k_dflt (refine wordItem (by k_asm) (by k_mem) rfl rfl (by assumption) (by (simp only [List.size_toArray]; omega)) (by (simp only [List.size_toArray]; omega)) (by (simp only [List.size_toArray, sizeLine_eq]; omega)) ?_); intro x' t' b1' b2') | (k_here; (with_reducible show wpAny _ _ (call (Value.ref 681) _) _ _ _); k_dflt (refine cDays (by k_asm) (by k_asm) (by k_asm) (by k_asm) (by k_asm) (by k_room) (fun t' h' tk' F' N' => ?_)); (try k_sweep); (try dsimp only)) | (k_here; (with_reducible show wpAny _ _ (call (Value.ref 737) _) _ _ _); k_dflt (refine' cLawWord ?z9B ?z9F ?z9X ?z9N ?z9T ?z9d ?z9u ?z9XB ?z9TB ?z9D ?z9p ?z9q ?z9r ?z9s ?_; (case z9B => k_asm); (case z9F => k_asm); (case z9X => k_asm); (case z9N => k_asm); (case z9T => k_asm); (case z9d => k_room); (case z9u => first | exact Nat.le_of_ble_eq_true rfl | k_units); (case z9XB => assumption); (case z9TB => assumption); (case z9D => assumption); (case z9p => omega); (case z9q => omega); (case z9r => exact (modB _).1); (case z9s => exact (modB _).2); k_whole); intro g' h' tk' T9 F' B' X' T' D9 N'; k_dflt (replace F' := Fr.unturn T9 F'; replace N' := News.unturn T9 N'); clear B' X' T' D9 T9; (try dsimp only)) | (k_here; (with_reducible show wpAny _ _ (call (Value.ref 695) _) _ _ _); k_dflt (refine' cIsTime ?z9B ?z9F ?z9X ?z9N ?z9T ?z9d (fun hok' h' tk' F' N' => ?_) (fun hnt' h' tk' F' N' => ?_); (case z9B => k_asm); (case z9F => k_asm); (case z9X => k_asm); (case z9N => k_asm); (case z9T => k_asm); (case z9d => k_room); (all_goals k_whole)); (all_goals ((try k_sweep); (try dsimp only)))) | (k_here; (with_reducible show wpAny _ _ (call (Value.ref 688) _) _ _ _); k_dflt (refine' cIsDay ?z9B ?z9F ?z9X ?z9N ?z9T ?z9d (fun hok' h' tk' F' N' => ?_) (fun hnt' h' tk' F' N' => ?_); (case z9B => k_asm); (case z9F => k_asm); (case z9X => k_asm); (case z9N => k_asm); (case z9T => k_asm); (case z9d => k_room); (all_goals k_whole)); (all_goals ((try k_sweep); (try dsimp only)))) | (k_here; (with_reducible show wpAny _ _ (call (Value.ref 723) _) _ _ _); k_dflt (refine' cLawWide ?z9B ?z9F ?z9X ?z9N ?z9T ?z9d ?_; (case z9B => k_asm); (case z9F => k_asm); (case z9X => k_asm); (case z9N => k_asm); (case z9T => k_asm); (case z9d => k_room); k_whole); intro xw' tw' h' tk' F' N'; (try k_sweep); (try dsimp only)) | (k_here; (with_reducible show wpAny _ _ (call (Value.ref 730) [Value.int 1 _, _]) _ _ _); k_dflt (refine' cMade1 ?z9B ?z9F ?z9X ?z9N ?z9T ?z9d ?z9u ?z9XB ?z9TB ?z9D ?z9m (fun hok' l' g' h' tk' T9 F' B' X' T' D9 N' => ?_) (fun hnt' g' h' tk' T9 F' B' X' T' D9 N' => ?_); (case z9B => k_asm); (case z9F => k_asm); (case z9X => k_asm); (case z9N => k_asm); (case z9T => k_asm); (case z9d => k_room); (case z9u => exact Nat.le_of_ble_eq_true rfl); (case z9XB => assumption); (case z9TB => assumption); (case z9D => assumption); (case z9m => k_mem); (all_goals k_whole)); (all_goals (k_dflt (replace F' := Fr.unturn T9 F'; replace N' := News.unturn T9 N'); clear B' X' T' D9 T9; (try (first | exact absurd hok' (by assumption) | exact absurd (by assumption) hnt')); (try k_sweep); (try dsimp only)))) | (k_here; (with_reducible show wpAny _ _ (call (Value.ref 730) [Value.int 0 _, _]) _ _ _); k_dflt (refine' cMade0 ?z9B ?z9F ?z9X ?z9N ?z9T ?z9d ?z9u ?z9XB ?z9TB ?z9D ?z9m (fun hda' hok' l' g' h' tk' T9 F' B' X' T' D9 N' => ?_) (fun hnt' g' h' tk' T9 F' B' X' T' D9 N' => ?_); (case z9B => k_asm); (case z9F => k_asm); (case z9X => k_asm); (case z9N => k_asm); (case z9T => k_asm); (case z9d => k_room); (case z9u => exact Nat.le_of_ble_eq_true rfl); (case z9XB => assumption); (case z9TB => assumption); (case z9D => assumption); (case z9m => k_mem); (all_goals k_whole)); (all_goals (k_dflt (replace F' := Fr.unturn T9 F'; replace N' := News.unturn T9 N'); clear B' X' T' D9 T9; (try (first | exact absurd hda' (by assumption) | exact absurd hok' (by assumption) | exact absurd (And.intro (by assumption) (by assumption)) hnt')); (try k_sweep); (try dsimp only))))); k_steps)
    refine wpG_isOrNil ?_
    (try dsimp only)
    refine wpG.nil ?_
    (try dsimp only)
    refine wpG.nil ?_
    exact ⟨_, _, _, rfl, F', N', JK.next⟩
  · refine ⟨fun h₄ tk₄ mk F₄ N₄ => ?_⟩
    clear hW F N
    dsimp only
    refine wpG.cons (wpG_ForInts (h₀ := s₁.heap) (by rfl) ?_ ?_ ?_)
    · k_steps
      repeat' (refine Later.mk ?_; (first | ((with_reducible rename List.length _ ≤ 6 => hl9); refine lenWords (by k_asm) (by k_mem) (by assumption) (fun t' tk' => ?_)) | (k_dflt (refine range1_rows (by k_asm) (by k_asm) ?_); intro h' tk' t' u' v' hR' F' N' up') | ((with_reducible rename IsRange _ _ _ _ _ _ _ _ => hr9); k_dflt (refine loopRangeK hr9 (by assumption) (by rfl) (by k_asm) (by k_asm) ?_ ?_)) | ((with_reducible show wpAny _ _ (subscriptTail _ _ (Value.ref _) (Value.int _ _)) _ _ _); k_dflt (refine wordItem (by k_asm) (by k_mem) rfl rfl (by assumption) (by (simp only [List.size_toArray]; omega)) (by (simp only [List.size_toArray]; omega)) (by (simp only [List.size_toArray, sizeLine_eq]; omega)) ?_); intro x' t' b1' b2') | (k_here; (with_reducible show wpAny _ _ (call (Value.ref 681) _) _ _ _); k_dflt (refine cDays (by k_asm) (by k_asm) (by k_asm) (by k_asm) (by k_asm) (by k_room) (fun t' h' tk' F' N' => ?_)); (try k_sweep); (try dsimp only)) | (k_here; (with_reducible show wpAny _ _ (call (Value.ref 737) _) _ _ _); k_dflt (refine' cLawWord ?z9B ?z9F ?z9X ?z9N ?z9T ?z9d ?z9u ?z9XB ?z9TB ?z9D ?z9p ?z9q ?z9r ?z9s ?_; (case z9B => k_asm); (case z9F => k_asm); (case z9X => k_asm); (case z9N => k_asm); (case z9T => k_asm); (case z9d => k_room); (case z9u => first | exact Nat.le_of_ble_eq_true rfl | k_units); (case z9XB => assumption); (case z9TB => assumption); (case z9D => assumption); (case z9p => omega); (case z9q => omega); (case z9r => exact (modB _).1); (case z9s => exact (modB _).2); k_whole); intro g' h' tk' T9 F' B' X' T' D9 N'; k_dflt (replace F' := Fr.unturn T9 F'; replace N' := News.unturn T9 N'); clear B' X' T' D9 T9; (try dsimp only)) | (k_here; (with_reducible show wpAny _ _ (call (Value.ref 695) _) _ _ _); k_dflt (refine' cIsTime ?z9B ?z9F ?z9X ?z9N ?z9T ?z9d (fun hok' h' tk' F' N' => ?_) (fun hnt' h' tk' F' N' => ?_); (case z9B => k_asm); (case z9F => k_asm); (case z9X => k_asm); (case z9N => k_asm); (case z9T => k_asm); (case z9d => k_room); (all_goals k_whole)); (all_goals ((try k_sweep); (try dsimp only)))) | (k_here; (with_reducible show wpAny _ _ (call (Value.ref 688) _) _ _ _); k_dflt (refine' cIsDay ?z9B ?z9F ?z9X ?z9N ?z9T ?z9d (fun hok' h' tk' F' N' => ?_) (fun hnt' h' tk' F' N' => ?_); (case z9B => k_asm); (case z9F => k_asm); (case z9X => k_asm); (case z9N => k_asm); (case z9T => k_asm); (case z9d => k_room); (all_goals k_whole)); (all_goals ((try k_sweep); (try dsimp only)))) | (k_here; (with_reducible show wpAny _ _ (call (Value.ref 723) _) _ _ _); k_dflt (refine' cLawWide ?z9B ?z9F ?z9X ?z9N ?z9T ?z9d ?_; (case z9B => k_asm); (case z9F => k_asm); (case z9X => k_asm); (case z9N => k_asm); (case z9T => k_asm); (case z9d => k_room); k_whole); intro xw' tw' h' tk' F' N'; (try k_sweep); (try dsimp only)) | (k_here; (with_reducible show wpAny _ _ (call (Value.ref 730) [Value.int 1 _, _]) _ _ _); k_dflt (refine' cMade1 ?z9B ?z9F ?z9X ?z9N ?z9T ?z9d ?z9u ?z9XB ?z9TB ?z9D ?z9m (fun hok' l' g' h' tk' T9 F' B' X' T' D9 N' => ?_) (fun hnt' g' h' tk' T9 F' B' X' T' D9 N' => ?_); (case z9B => k_asm); (case z9F => k_asm); (case z9X => k_asm); (case z9N => k_asm); (case z9T => k_asm); (case z9d => k_room); (case z9u => exact Nat.le_of_ble_eq_true rfl); (case z9XB => assumption); (case z9TB => assumption); (case z9D => assumption); (case z9m => k_mem); (all_goals k_whole)); (all_goals (k_dflt (replace F' := Fr.unturn T9 F'; replace N' := News.unturn T9 N'); clear B' X' T' D9 T9; (try (first | exact absurd hok' (by assumption) | exact absurd (by assumption) hnt')); (try k_sweep); (try dsimp only)))) | (k_here; (with_reducible show wpAny _ _ (call (Value.ref 730) [Value.int 0 _, _]) _ _ _); k_dflt (refine' cMade0 ?z9B ?z9F ?z9X ?z9N ?z9T ?z9d ?z9u ?z9XB ?z9TB ?z9D ?z9m (fun hda' hok' l' g' h' tk' T9 F' B' X' T' D9 N' => ?_) (fun hnt' g' h' tk' T9 F' B' X' T' D9 N' => ?_); (case z9B => k_asm); (case z9F => k_asm); (case z9X => k_asm); (case z9N => k_asm); (case z9T => k_asm); (case z9d => k_room); (case z9u => exact Nat.le_of_ble_eq_true rfl); (case z9XB => assumption); (case z9TB => assumption); (case z9D => assumption); (case z9m => k_mem); (all_goals k_whole)); (all_goals (k_dflt (replace F' := Fr.unturn T9 F'; replace N' := News.unturn T9 N'); clear B' X' T' D9 T9; (try (first | exact absurd hda' (by assumption) | exact absurd hok' (by assumption) | exact absurd (And.intro (by assumption) (by assumption)) hnt')); (try k_sweep); (try dsimp only))))); k_steps)
      · exact ⟨_, _, _, _, _, _, _, rfl, rfl, by assumption, by assumption, by k_mem, intsOf (by assumption)⟩
      · exact ⟨_, _, _, _, _, _, _, rfl, rfl, by assumption, by assumption, by k_mem, fun v hv => ⟨_, _, List.mem_singleton.mp hv⟩⟩
    · clear F₄ N₄ hcd
      intro D2 its n2 k2 t2 I oI h5 tk5 m5 F5 hne N5
      k_steps
      repeat' (refine Later.mk ?_; (first | ((with_reducible rename List.length _ ≤ 6 => hl9); refine lenWords (by k_asm) (by k_mem) (by assumption) (fun t' tk' => ?_)) | (k_dflt (refine range1_rows (by k_asm) (by k_asm) ?_); intro h' tk' t' u' v' hR' F' N' up') | ((with_reducible rename IsRange _ _ _ _ _ _ _ _ => hr9); k_dflt (refine loopRangeK hr9 (by assumption) (by rfl) (by k_asm) (by k_asm) ?_ ?_)) | ((with_reducible show wpAny _ _ (subscriptTail _ _ (Value.ref _) (Value.int _ _)) _ _ _); k_dflt (refine wordItem (by k_asm) (by k_mem) rfl rfl (by assumption) (by (simp only [List.size_toArray]; omega)) (by (simp only [List.size_toArray]; omega)) (by (simp only [List.size_toArray, sizeLine_eq]; omega)) ?_); intro x' t' b1' b2') | (k_here; (with_reducible show wpAny _ _ (call (Value.ref 681) _) _ _ _); k_dflt (refine cDays (by k_asm) (by k_asm) (by k_asm) (by k_asm) (by k_asm) (by k_room) (fun t' h' tk' F' N' => ?_)); (try k_sweep); (try dsimp only)) | (k_here; (with_reducible show wpAny _ _ (call (Value.ref 737) _) _ _ _); k_dflt (refine' cLawWord ?z9B ?z9F ?z9X ?z9N ?z9T ?z9d ?z9u ?z9XB ?z9TB ?z9D ?z9p ?z9q ?z9r ?z9s ?_; (case z9B => k_asm); (case z9F => k_asm); (case z9X => k_asm); (case z9N => k_asm); (case z9T => k_asm); (case z9d => k_room); (case z9u => first | exact Nat.le_of_ble_eq_true rfl | k_units); (case z9XB => assumption); (case z9TB => assumption); (case z9D => assumption); (case z9p => omega); (case z9q => omega); (case z9r => exact (modB _).1); (case z9s => exact (modB _).2); k_whole); intro g' h' tk' T9 F' B' X' T' D9 N'; k_dflt (replace F' := Fr.unturn T9 F'; replace N' := News.unturn T9 N'); clear B' X' T' D9 T9; (try dsimp only)) | (k_here; (with_reducible show wpAny _ _ (call (Value.ref 695) _) _ _ _); k_dflt (refine' cIsTime ?z9B ?z9F ?z9X ?z9N ?z9T ?z9d (fun hok' h' tk' F' N' => ?_) (fun hnt' h' tk' F' N' => ?_); (case z9B => k_asm); (case z9F => k_asm); (case z9X => k_asm); (case z9N => k_asm); (case z9T => k_asm); (case z9d => k_room); (all_goals k_whole)); (all_goals ((try k_sweep); (try dsimp only)))) | (k_here; (with_reducible show wpAny _ _ (call (Value.ref 688) _) _ _ _); k_dflt (refine' cIsDay ?z9B ?z9F ?z9X ?z9N ?z9T ?z9d (fun hok' h' tk' F' N' => ?_) (fun hnt' h' tk' F' N' => ?_); (case z9B => k_asm); (case z9F => k_asm); (case z9X => k_asm); (case z9N => k_asm); (case z9T => k_asm); (case z9d => k_room); (all_goals k_whole)); (all_goals ((try k_sweep); (try dsimp only)))) | (k_here; (with_reducible show wpAny _ _ (call (Value.ref 723) _) _ _ _); k_dflt (refine' cLawWide ?z9B ?z9F ?z9X ?z9N ?z9T ?z9d ?_; (case z9B => k_asm); (case z9F => k_asm); (case z9X => k_asm); (case z9N => k_asm); (case z9T => k_asm); (case z9d => k_room); k_whole); intro xw' tw' h' tk' F' N'; (try k_sweep); (try dsimp only)) | (k_here; (with_reducible show wpAny _ _ (call (Value.ref 730) [Value.int 1 _, _]) _ _ _); k_dflt (refine' cMade1 ?z9B ?z9F ?z9X ?z9N ?z9T ?z9d ?z9u ?z9XB ?z9TB ?z9D ?z9m (fun hok' l' g' h' tk' T9 F' B' X' T' D9 N' => ?_) (fun hnt' g' h' tk' T9 F' B' X' T' D9 N' => ?_); (case z9B => k_asm); (case z9F => k_asm); (case z9X => k_asm); (case z9N => k_asm); (case z9T => k_asm); (case z9d => k_room); (case z9u => exact Nat.le_of_ble_eq_true rfl); (case z9XB => assumption); (case z9TB => assumption); (case z9D => assumption); (case z9m => k_mem); (all_goals k_whole)); (all_goals (k_dflt (replace F' := Fr.unturn T9 F'; replace N' := News.unturn T9 N'); clear B' X' T' D9 T9; (try (first | exact absurd hok' (by assumption) | exact absurd (by assumption) hnt')); (try k_sweep); (try dsimp only)))) | (k_here; (with_reducible show wpAny _ _ (call (Value.ref 730) [Value.int 0 _, _]) _ _ _); k_dflt (refine' cMade0 ?z9B ?z9F ?z9X ?z9N ?z9T ?z9d ?z9u ?z9XB ?z9TB ?z9D ?z9m (fun hda' hok' l' g' h' tk' T9 F' B' X' T' D9 N' => ?_) (fun hnt' g' h' tk' T9 F' B' X' T' D9 N' => ?_); (case z9B => k_asm); (case z9F => k_asm); (case z9X => k_asm); (case z9N => k_asm); (case z9T => k_asm); (case z9d => k_room); (case z9u => exact Nat.le_of_ble_eq_true rfl); (case z9XB => assumption); (case z9TB => assumption); (case z9D => assumption); (case z9m => k_mem); (all_goals k_whole)); (all_goals (k_dflt (replace F' := Fr.unturn T9 F'; replace N' := News.unturn T9 N'); clear B' X' T' D9 T9; (try (first | exact absurd hda' (by assumption) | exact absurd hok' (by assumption) | exact absurd (And.intro (by assumption) (by assumption)) hnt')); (try k_sweep); (try dsimp only))))); k_steps)
      refine ⟨?_⟩
      refine groupTo (l₁ := [_, _]) (P := YearDone s₁ s₁.heap s₁.heap.objs.size [(I, oI), (D2, { cls := .type "list", data := .seq its n2 })]) ?_ (fun _ _ h => h.1) fun s' hd => ?_
      · k_steps
        all_goals (
          (try dsimp only)
          (with_reducible rename Fr _ _ _ _ => F')
          refine ⟨rfl, _, _, _, _, _, _, _, rfl, Fr.see (x := Str.ofString "year") (Fr.see (x := Str.ofString "n") F' rfl) rfl, by assumption, (modP ?_).1, (modP ?_).2⟩
          all_goals exact Int.pow_pos (by decide))
      obtain ⟨-, kn, tn, y, ty, h6, tk6, m6, rfl, F6, N6, hk0, hk1⟩ := hd
      clear N5 F5
      refine groupTo (l₁ := [_, _, _]) (P := NumsDone s₁ s₁.heap s₁.heap.objs.size [(I, oI), (D2, { cls := .type "list", data := .seq its n2 })]) ?_ (fun _ _ h => h.1) fun s' hd => ?_
      · k_steps
        repeat' (refine Later.mk ?_; (first | ((with_reducible rename List.length _ ≤ 6 => hl9); refine lenWords (by k_asm) (by k_mem) (by assumption) (fun t' tk' => ?_)) | (k_dflt (refine range1_rows (by k_asm) (by k_asm) ?_); intro h' tk' t' u' v' hR' F' N' up') | ((with_reducible rename IsRange _ _ _ _ _ _ _ _ => hr9); k_dflt (refine loopRangeK hr9 (by assumption) (by rfl) (by k_asm) (by k_asm) ?_ ?_)) | ((with_reducible show wpAny _ _ (subscriptTail _ _ (Value.ref _) (Value.int _ _)) _ _ _); k_dflt (refine wordItem (by k_asm) (by k_mem) rfl rfl (by assumption) (by (simp only [List.size_toArray]; omega)) (by (simp only [List.size_toArray]; omega)) (by (simp only [List.size_toArray, sizeLine_eq]; omega)) ?_); intro x' t' b1' b2') | (k_here; (with_reducible show wpAny _ _ (call (Value.ref 681) _) _ _ _); k_dflt (refine cDays (by k_asm) (by k_asm) (by k_asm) (by k_asm) (by k_asm) (by k_room) (fun t' h' tk' F' N' => ?_)); (try k_sweep); (try dsimp only)) | (k_here; (with_reducible show wpAny _ _ (call (Value.ref 737) _) _ _ _); k_dflt (refine' cLawWord ?z9B ?z9F ?z9X ?z9N ?z9T ?z9d ?z9u ?z9XB ?z9TB ?z9D ?z9p ?z9q ?z9r ?z9s ?_; (case z9B => k_asm); (case z9F => k_asm); (case z9X => k_asm); (case z9N => k_asm); (case z9T => k_asm); (case z9d => k_room); (case z9u => first | exact Nat.le_of_ble_eq_true rfl | k_units); (case z9XB => assumption); (case z9TB => assumption); (case z9D => assumption); (case z9p => omega); (case z9q => omega); (case z9r => exact (modB _).1); (case z9s => exact (modB _).2); k_whole); intro g' h' tk' T9 F' B' X' T' D9 N'; k_dflt (replace F' := Fr.unturn T9 F'; replace N' := News.unturn T9 N'); clear B' X' T' D9 T9; (try dsimp only)) | (k_here; (with_reducible show wpAny _ _ (call (Value.ref 695) _) _ _ _); k_dflt (refine' cIsTime ?z9B ?z9F ?z9X ?z9N ?z9T ?z9d (fun hok' h' tk' F' N' => ?_) (fun hnt' h' tk' F' N' => ?_); (case z9B => k_asm); (case z9F => k_asm); (case z9X => k_asm); (case z9N => k_asm); (case z9T => k_asm); (case z9d => k_room); (all_goals k_whole)); (all_goals ((try k_sweep); (try dsimp only)))) | (k_here; (with_reducible show wpAny _ _ (call (Value.ref 688) _) _ _ _); k_dflt (refine' cIsDay ?z9B ?z9F ?z9X ?z9N ?z9T ?z9d (fun hok' h' tk' F' N' => ?_) (fun hnt' h' tk' F' N' => ?_); (case z9B => k_asm); (case z9F => k_asm); (case z9X => k_asm); (case z9N => k_asm); (case z9T => k_asm); (case z9d => k_room); (all_goals k_whole)); (all_goals ((try k_sweep); (try dsimp only)))) | (k_here; (with_reducible show wpAny _ _ (call (Value.ref 723) _) _ _ _); k_dflt (refine' cLawWide ?z9B ?z9F ?z9X ?z9N ?z9T ?z9d ?_; (case z9B => k_asm); (case z9F => k_asm); (case z9X => k_asm); (case z9N => k_asm); (case z9T => k_asm); (case z9d => k_room); k_whole); intro xw' tw' h' tk' F' N'; (try k_sweep); (try dsimp only)) | (k_here; (with_reducible show wpAny _ _ (call (Value.ref 730) [Value.int 1 _, _]) _ _ _); k_dflt (refine' cMade1 ?z9B ?z9F ?z9X ?z9N ?z9T ?z9d ?z9u ?z9XB ?z9TB ?z9D ?z9m (fun hok' l' g' h' tk' T9 F' B' X' T' D9 N' => ?_) (fun hnt' g' h' tk' T9 F' B' X' T' D9 N' => ?_); (case z9B => k_asm); (case z9F => k_asm); (case z9X => k_asm); (case z9N => k_asm); (case z9T => k_asm); (case z9d => k_room); (case z9u => exact Nat.le_of_ble_eq_true rfl); (case z9XB => assumption); (case z9TB => assumption); (case z9D => assumption); (case z9m => k_mem); (all_goals k_whole)); (all_goals (k_dflt (replace F' := Fr.unturn T9 F'; replace N' := News.unturn T9 N'); clear B' X' T' D9 T9; (try (first | exact absurd hok' (by assumption) | exact absurd (by assumption) hnt')); (try k_sweep); (try dsimp only)))) | (k_here; (with_reducible show wpAny _ _ (call (Value.ref 730) [Value.int 0 _, _]) _ _ _); k_dflt (refine' cMade0 ?z9B ?z9F ?z9X ?z9N ?z9T ?z9d ?z9u ?z9XB ?z9TB ?z9D ?z9m (fun hda' hok' l' g' h' tk' T9 F' B' X' T' D9 N' => ?_) (fun hnt' g' h' tk' T9 F' B' X' T' D9 N' => ?_); (case z9B => k_asm); (case z9F => k_asm); (case z9X => k_asm); (case z9N => k_asm); (case z9T => k_asm); (case z9d => k_room); (case z9u => exact Nat.le_of_ble_eq_true rfl); (case z9XB => assumption); (case z9TB => assumption); (case z9D => assumption); (case z9m => k_mem); (all_goals k_whole)); (all_goals (k_dflt (replace F' := Fr.unturn T9 F'; replace N' := News.unturn T9 N'); clear B' X' T' D9 T9; (try (first | exact absurd hda' (by assumption) | exact absurd hok' (by assumption) | exact absurd (And.intro (by assumption) (by assumption)) hnt')); (try k_sweep); (try dsimp only))))); k_steps)
        all_goals (
          (try dsimp only)
          (with_reducible rename Fr _ _ _ _ => F')
          exact ⟨rfl, _, _, _, _, _, _, _, _, _, _, _, _, _, _, _, _, _, _, _, rfl, Fr.see (x := Str.ofString "numbers") (Fr.see (x := Str.ofString "n") F' rfl) rfl, News.drop9 (by assumption) (subC (by k_mem) (subC (by k_mem) (subC (by k_mem) (fun _ h => nomatch h)))), hk0, hk1⟩)
      clear F6 N6 hk0 hk1
      · obtain ⟨-, N6, y, mo, d, h, mi, sec, t1, t2, t3, t4, t5, t6, n6, kn, tn, h6, tk6, m6, rfl, F6, N6', hk0, hk1⟩ := hd
        refine groupTo (l₁ := [_, _, _, _]) (P := MadeDone s₁ s₁.heap s₁.heap.objs.size kn tn [(I, oI), (D2, { cls := .type "list", data := .seq its n2 })]) ?_ (fun _ _ h => h.1) fun s' hd => ?_
        · k_steps
          repeat' (refine Later.mk ?_; (first | ((with_reducible rename List.length _ ≤ 6 => hl9); refine lenWords (by k_asm) (by k_mem) (by assumption) (fun t' tk' => ?_)) | (k_dflt (refine range1_rows (by k_asm) (by k_asm) ?_); intro h' tk' t' u' v' hR' F' N' up') | ((with_reducible rename IsRange _ _ _ _ _ _ _ _ => hr9); k_dflt (refine loopRangeK hr9 (by assumption) (by rfl) (by k_asm) (by k_asm) ?_ ?_)) | ((with_reducible show wpAny _ _ (subscriptTail _ _ (Value.ref _) (Value.int _ _)) _ _ _); k_dflt (refine wordItem (by k_asm) (by k_mem) rfl rfl (by assumption) (by (simp only [List.size_toArray]; omega)) (by (simp only [List.size_toArray]; omega)) (by (simp only [List.size_toArray, sizeLine_eq]; omega)) ?_); intro x' t' b1' b2') | (k_here; (with_reducible show wpAny _ _ (call (Value.ref 681) _) _ _ _); k_dflt (refine cDays (by k_asm) (by k_asm) (by k_asm) (by k_asm) (by k_asm) (by k_room) (fun t' h' tk' F' N' => ?_)); (try k_sweep); (try dsimp only)) | (k_here; (with_reducible show wpAny _ _ (call (Value.ref 737) _) _ _ _); k_dflt (refine' cLawWord ?z9B ?z9F ?z9X ?z9N ?z9T ?z9d ?z9u ?z9XB ?z9TB ?z9D ?z9p ?z9q ?z9r ?z9s ?_; (case z9B => k_asm); (case z9F => k_asm); (case z9X => k_asm); (case z9N => k_asm); (case z9T => k_asm); (case z9d => k_room); (case z9u => first | exact Nat.le_of_ble_eq_true rfl | k_units); (case z9XB => assumption); (case z9TB => assumption); (case z9D => assumption); (case z9p => omega); (case z9q => omega); (case z9r => exact (modB _).1); (case z9s => exact (modB _).2); k_whole); intro g' h' tk' T9 F' B' X' T' D9 N'; k_dflt (replace F' := Fr.unturn T9 F'; replace N' := News.unturn T9 N'); clear B' X' T' D9 T9; (try dsimp only)) | (k_here; (with_reducible show wpAny _ _ (call (Value.ref 695) _) _ _ _); k_dflt (refine' cIsTime ?z9B ?z9F ?z9X ?z9N ?z9T ?z9d (fun hok' h' tk' F' N' => ?_) (fun hnt' h' tk' F' N' => ?_); (case z9B => k_asm); (case z9F => k_asm); (case z9X => k_asm); (case z9N => k_asm); (case z9T => k_asm); (case z9d => k_room); (all_goals k_whole)); (all_goals ((try k_sweep); (try dsimp only)))) | (k_here; (with_reducible show wpAny _ _ (call (Value.ref 688) _) _ _ _); k_dflt (refine' cIsDay ?z9B ?z9F ?z9X ?z9N ?z9T ?z9d (fun hok' h' tk' F' N' => ?_) (fun hnt' h' tk' F' N' => ?_); (case z9B => k_asm); (case z9F => k_asm); (case z9X => k_asm); (case z9N => k_asm); (case z9T => k_asm); (case z9d => k_room); (all_goals k_whole)); (all_goals ((try k_sweep); (try dsimp only)))) | (k_here; (with_reducible show wpAny _ _ (call (Value.ref 723) _) _ _ _); k_dflt (refine' cLawWide ?z9B ?z9F ?z9X ?z9N ?z9T ?z9d ?_; (case z9B => k_asm); (case z9F => k_asm); (case z9X => k_asm); (case z9N => k_asm); (case z9T => k_asm); (case z9d => k_room); k_whole); intro xw' tw' h' tk' F' N'; (try k_sweep); (try dsimp only)) | (k_here; (with_reducible show wpAny _ _ (call (Value.ref 730) [Value.int 1 _, _]) _ _ _); k_dflt (refine' cMade1 ?z9B ?z9F ?z9X ?z9N ?z9T ?z9d ?z9u ?z9XB ?z9TB ?z9D ?z9m (fun hok' l' g' h' tk' T9 F' B' X' T' D9 N' => ?_) (fun hnt' g' h' tk' T9 F' B' X' T' D9 N' => ?_); (case z9B => k_asm); (case z9F => k_asm); (case z9X => k_asm); (case z9N => k_asm); (case z9T => k_asm); (case z9d => k_room); (case z9u => exact Nat.le_of_ble_eq_true rfl); (case z9XB => assumption); (case z9TB => assumption); (case z9D => assumption); (case z9m => k_mem); (all_goals k_whole)); (all_goals (k_dflt (replace F' := Fr.unturn T9 F'; replace N' := News.unturn T9 N'); clear B' X' T' D9 T9; (try (first | exact absurd hok' (by assumption) | exact absurd (by assumption) hnt')); (try k_sweep); (try dsimp only)))) | (k_here; (with_reducible show wpAny _ _ (call (Value.ref 730) [Value.int 0 _, _]) _ _ _); k_dflt (refine' cMade0 ?z9B ?z9F ?z9X ?z9N ?z9T ?z9d ?z9u ?z9XB ?z9TB ?z9D ?z9m (fun hda' hok' l' g' h' tk' T9 F' B' X' T' D9 N' => ?_) (fun hnt' g' h' tk' T9 F' B' X' T' D9 N' => ?_); (case z9B => k_asm); (case z9F => k_asm); (case z9X => k_asm); (case z9N => k_asm); (case z9T => k_asm); (case z9d => k_room); (case z9u => exact Nat.le_of_ble_eq_true rfl); (case z9XB => assumption); (case z9TB => assumption); (case z9D => assumption); (case z9m => k_mem); (all_goals k_whole)); (all_goals (k_dflt (replace F' := Fr.unturn T9 F'; replace N' := News.unturn T9 N'); clear B' X' T' D9 T9; (try (first | exact absurd hda' (by assumption) | exact absurd hok' (by assumption) | exact absurd (And.intro (by assumption) (by assumption)) hnt')); (try k_sweep); (try dsimp only))))); k_steps)
          all_goals (
            (try dsimp only)
            (with_reducible rename Fr _ _ _ _ => F')
            exact ⟨rfl, _, _, _, rfl, Fr.see (x := Str.ofString "n") F' rfl, News.drop9 (by assumption) (subC (by k_mem) (subC (by k_mem) (fun _ h => nomatch h)))⟩)
        · obtain ⟨-, h7, tk7, m7, rfl, F7, N7⟩ := hd
          clear F6 N6'
          refine groupTo (l₁ := [_, _]) (P := DayDone s₁ s₁.heap s₁.heap.objs.size [(I, oI), (D2, { cls := .type "list", data := .seq its n2 })]) ?_ (fun _ _ h => h.1) fun s' hd => ?_
          · k_steps
            repeat' (refine Later.mk ?_; (first | ((with_reducible rename List.length _ ≤ 6 => hl9); refine lenWords (by k_asm) (by k_mem) (by assumption) (fun t' tk' => ?_)) | (k_dflt (refine range1_rows (by k_asm) (by k_asm) ?_); intro h' tk' t' u' v' hR' F' N' up') | ((with_reducible rename IsRange _ _ _ _ _ _ _ _ => hr9); k_dflt (refine loopRangeK hr9 (by assumption) (by rfl) (by k_asm) (by k_asm) ?_ ?_)) | ((with_reducible show wpAny _ _ (subscriptTail _ _ (Value.ref _) (Value.int _ _)) _ _ _); k_dflt (refine wordItem (by k_asm) (by k_mem) rfl rfl (by assumption) (by (simp only [List.size_toArray]; omega)) (by (simp only [List.size_toArray]; omega)) (by (simp only [List.size_toArray, sizeLine_eq]; omega)) ?_); intro x' t' b1' b2') | (k_here; (with_reducible show wpAny _ _ (call (Value.ref 681) _) _ _ _); k_dflt (refine cDays (by k_asm) (by k_asm) (by k_asm) (by k_asm) (by k_asm) (by k_room) (fun t' h' tk' F' N' => ?_)); (try k_sweep); (try dsimp only)) | (k_here; (with_reducible show wpAny _ _ (call (Value.ref 737) _) _ _ _); k_dflt (refine' cLawWord ?z9B ?z9F ?z9X ?z9N ?z9T ?z9d ?z9u ?z9XB ?z9TB ?z9D ?z9p ?z9q ?z9r ?z9s ?_; (case z9B => k_asm); (case z9F => k_asm); (case z9X => k_asm); (case z9N => k_asm); (case z9T => k_asm); (case z9d => k_room); (case z9u => first | exact Nat.le_of_ble_eq_true rfl | k_units); (case z9XB => assumption); (case z9TB => assumption); (case z9D => assumption); (case z9p => omega); (case z9q => omega); (case z9r => exact (modB _).1); (case z9s => exact (modB _).2); k_whole); intro g' h' tk' T9 F' B' X' T' D9 N'; k_dflt (replace F' := Fr.unturn T9 F'; replace N' := News.unturn T9 N'); clear B' X' T' D9 T9; (try dsimp only)) | (k_here; (with_reducible show wpAny _ _ (call (Value.ref 695) _) _ _ _); k_dflt (refine' cIsTime ?z9B ?z9F ?z9X ?z9N ?z9T ?z9d (fun hok' h' tk' F' N' => ?_) (fun hnt' h' tk' F' N' => ?_); (case z9B => k_asm); (case z9F => k_asm); (case z9X => k_asm); (case z9N => k_asm); (case z9T => k_asm); (case z9d => k_room); (all_goals k_whole)); (all_goals ((try k_sweep); (try dsimp only)))) | (k_here; (with_reducible show wpAny _ _ (call (Value.ref 688) _) _ _ _); k_dflt (refine' cIsDay ?z9B ?z9F ?z9X ?z9N ?z9T ?z9d (fun hok' h' tk' F' N' => ?_) (fun hnt' h' tk' F' N' => ?_); (case z9B => k_asm); (case z9F => k_asm); (case z9X => k_asm); (case z9N => k_asm); (case z9T => k_asm); (case z9d => k_room); (all_goals k_whole)); (all_goals ((try k_sweep); (try dsimp only)))) | (k_here; (with_reducible show wpAny _ _ (call (Value.ref 723) _) _ _ _); k_dflt (refine' cLawWide ?z9B ?z9F ?z9X ?z9N ?z9T ?z9d ?_; (case z9B => k_asm); (case z9F => k_asm); (case z9X => k_asm); (case z9N => k_asm); (case z9T => k_asm); (case z9d => k_room); k_whole); intro xw' tw' h' tk' F' N'; (try k_sweep); (try dsimp only)) | (k_here; (with_reducible show wpAny _ _ (call (Value.ref 730) [Value.int 1 _, _]) _ _ _); k_dflt (refine' cMade1 ?z9B ?z9F ?z9X ?z9N ?z9T ?z9d ?z9u ?z9XB ?z9TB ?z9D ?z9m (fun hok' l' g' h' tk' T9 F' B' X' T' D9 N' => ?_) (fun hnt' g' h' tk' T9 F' B' X' T' D9 N' => ?_); (case z9B => k_asm); (case z9F => k_asm); (case z9X => k_asm); (case z9N => k_asm); (case z9T => k_asm); (case z9d => k_room); (case z9u => exact Nat.le_of_ble_eq_true rfl); (case z9XB => assumption); (case z9TB => assumption); (case z9D => assumption); (case z9m => k_mem); (all_goals k_whole)); (all_goals (k_dflt (replace F' := Fr.unturn T9 F'; replace N' := News.unturn T9 N'); clear B' X' T' D9 T9; (try (first | exact absurd hok' (by assumption) | exact absurd (by assumption) hnt')); (try k_sweep); (try dsimp only)))) | (k_here; (with_reducible show wpAny _ _ (call (Value.ref 730) [Value.int 0 _, _]) _ _ _); k_dflt (refine' cMade0 ?z9B ?z9F ?z9X ?z9N ?z9T ?z9d ?z9u ?z9XB ?z9TB ?z9D ?z9m (fun hda' hok' l' g' h' tk' T9 F' B' X' T' D9 N' => ?_) (fun hnt' g' h' tk' T9 F' B' X' T' D9 N' => ?_); (case z9B => k_asm); (case z9F => k_asm); (case z9X => k_asm); (case z9N => k_asm); (case z9T => k_asm); (case z9d => k_room); (case z9u => exact Nat.le_of_ble_eq_true rfl); (case z9XB => assumption); (case z9TB => assumption); (case z9D => assumption); (case z9m => k_mem); (all_goals k_whole)); (all_goals (k_dflt (replace F' := Fr.unturn T9 F'; replace N' := News.unturn T9 N'); clear B' X' T' D9 T9; (try (first | exact absurd hda' (by assumption) | exact absurd hok' (by assumption) | exact absurd (And.intro (by assumption) (by assumption)) hnt')); (try k_sweep); (try dsimp only))))); k_steps)
            all_goals (
              (try dsimp only)
              (with_reducible rename Fr _ _ _ _ => F')
              exact ⟨rfl, _, _, _, _, _, _, _, _, _, _, _, _, _, _, _, _, _, _, _, rfl, Fr.see (x := Str.ofString "last") (Fr.see (x := Str.ofString "day") F' rfl) rfl, News.drop9 (by assumption) (subC (by k_mem) (subC (by k_mem) (subC (by k_mem) (fun _ h => nomatch h)))), dayFacts _⟩)
          · obtain ⟨-, D8, y8, mo8, d8, h8, mi8, sec8, u1, u2, u3, u4, u5, u6, n8, la, tl, h9, tk9, m9, rfl, F8, N8, hy8, ho8, hl8, ht8⟩ := hd
            clear F7 N7
            refine wpG.cons (wpG_If (wpG_isOr (wpG_isNot (wpG_isPlain (wpG_Call_ ?_)))))
            k_steps
            repeat' (refine Later.mk ?_; (first | ((with_reducible rename List.length _ ≤ 6 => hl9); refine lenWords (by k_asm) (by k_mem) (by assumption) (fun t' tk' => ?_)) | (k_dflt (refine range1_rows (by k_asm) (by k_asm) ?_); intro h' tk' t' u' v' hR' F' N' up') | ((with_reducible rename IsRange _ _ _ _ _ _ _ _ => hr9); k_dflt (refine loopRangeK hr9 (by assumption) (by rfl) (by k_asm) (by k_asm) ?_ ?_)) | ((with_reducible show wpAny _ _ (subscriptTail _ _ (Value.ref _) (Value.int _ _)) _ _ _); k_dflt (refine wordItem (by k_asm) (by k_mem) rfl rfl (by assumption) (by (simp only [List.size_toArray]; omega)) (by (simp only [List.size_toArray]; omega)) (by (simp only [List.size_toArray, sizeLine_eq]; omega)) ?_); intro x' t' b1' b2') | (k_here; (with_reducible show wpAny _ _ (call (Value.ref 681) _) _ _ _); k_dflt (refine cDays (by k_asm) (by k_asm) (by k_asm) (by k_asm) (by k_asm) (by k_room) (fun t' h' tk' F' N' => ?_)); (try k_sweep); (try dsimp only)) | (k_here; (with_reducible show wpAny _ _ (call (Value.ref 737) _) _ _ _); k_dflt (refine' cLawWord ?z9B ?z9F ?z9X ?z9N ?z9T ?z9d ?z9u ?z9XB ?z9TB ?z9D ?z9p ?z9q ?z9r ?z9s ?_; (case z9B => k_asm); (case z9F => k_asm); (case z9X => k_asm); (case z9N => k_asm); (case z9T => k_asm); (case z9d => k_room); (case z9u => first | exact Nat.le_of_ble_eq_true rfl | k_units); (case z9XB => assumption); (case z9TB => assumption); (case z9D => assumption); (case z9p => omega); (case z9q => omega); (case z9r => exact (modB _).1); (case z9s => exact (modB _).2); k_whole); intro g' h' tk' T9 F' B' X' T' D9 N'; k_dflt (replace F' := Fr.unturn T9 F'; replace N' := News.unturn T9 N'); clear B' X' T' D9 T9; (try dsimp only)) | (k_here; (with_reducible show wpAny _ _ (call (Value.ref 695) _) _ _ _); k_dflt (refine' cIsTime ?z9B ?z9F ?z9X ?z9N ?z9T ?z9d (fun hok' h' tk' F' N' => ?_) (fun hnt' h' tk' F' N' => ?_); (case z9B => k_asm); (case z9F => k_asm); (case z9X => k_asm); (case z9N => k_asm); (case z9T => k_asm); (case z9d => k_room); (all_goals k_whole)); (all_goals ((try k_sweep); (try dsimp only)))) | (k_here; (with_reducible show wpAny _ _ (call (Value.ref 688) _) _ _ _); k_dflt (refine' cIsDay ?z9B ?z9F ?z9X ?z9N ?z9T ?z9d (fun hok' h' tk' F' N' => ?_) (fun hnt' h' tk' F' N' => ?_); (case z9B => k_asm); (case z9F => k_asm); (case z9X => k_asm); (case z9N => k_asm); (case z9T => k_asm); (case z9d => k_room); (all_goals k_whole)); (all_goals ((try k_sweep); (try dsimp only)))) | (k_here; (with_reducible show wpAny _ _ (call (Value.ref 723) _) _ _ _); k_dflt (refine' cLawWide ?z9B ?z9F ?z9X ?z9N ?z9T ?z9d ?_; (case z9B => k_asm); (case z9F => k_asm); (case z9X => k_asm); (case z9N => k_asm); (case z9T => k_asm); (case z9d => k_room); k_whole); intro xw' tw' h' tk' F' N'; (try k_sweep); (try dsimp only)) | (k_here; (with_reducible show wpAny _ _ (call (Value.ref 730) [Value.int 1 _, _]) _ _ _); k_dflt (refine' cMade1 ?z9B ?z9F ?z9X ?z9N ?z9T ?z9d ?z9u ?z9XB ?z9TB ?z9D ?z9m (fun hok' l' g' h' tk' T9 F' B' X' T' D9 N' => ?_) (fun hnt' g' h' tk' T9 F' B' X' T' D9 N' => ?_); (case z9B => k_asm); (case z9F => k_asm); (case z9X => k_asm); (case z9N => k_asm); (case z9T => k_asm); (case z9d => k_room); (case z9u => exact Nat.le_of_ble_eq_true rfl); (case z9XB => assumption); (case z9TB => assumption); (case z9D => assumption); (case z9m => k_mem); (all_goals k_whole)); (all_goals (k_dflt (replace F' := Fr.unturn T9 F'; replace N' := News.unturn T9 N'); clear B' X' T' D9 T9; (try (first | exact absurd hok' (by assumption) | exact absurd (by assumption) hnt')); (try k_sweep); (try dsimp only)))) | (k_here; (with_reducible show wpAny _ _ (call (Value.ref 730) [Value.int 0 _, _]) _ _ _); k_dflt (refine' cMade0 ?z9B ?z9F ?z9X ?z9N ?z9T ?z9d ?z9u ?z9XB ?z9TB ?z9D ?z9m (fun hda' hok' l' g' h' tk' T9 F' B' X' T' D9 N' => ?_) (fun hnt' g' h' tk' T9 F' B' X' T' D9 N' => ?_); (case z9B => k_asm); (case z9F => k_asm); (case z9X => k_asm); (case z9N => k_asm); (case z9T => k_asm); (case z9d => k_room); (case z9u => exact Nat.le_of_ble_eq_true rfl); (case z9XB => assumption); (case z9TB => assumption); (case z9D => assumption); (case z9m => k_mem); (all_goals k_whole)); (all_goals (k_dflt (replace F' := Fr.unturn T9 F'; replace N' := News.unturn T9 N'); clear B' X' T' D9 T9; (try (first | exact absurd hda' (by assumption) | exact absurd hok' (by assumption) | exact absurd (And.intro (by assumption) (by assumption)) hnt')); (try k_sweep); (try dsimp only))))); k_steps)
            refine wpG_callWith_K (h₀ := s₁.heap) (K := Mine.hd.heap_39 w.params) (by k_is) ?_
            k_steps
            repeat' (refine Later.mk ?_; (first | ((with_reducible rename List.length _ ≤ 6 => hl9); refine lenWords (by k_asm) (by k_mem) (by assumption) (fun t' tk' => ?_)) | (k_dflt (refine range1_rows (by k_asm) (by k_asm) ?_); intro h' tk' t' u' v' hR' F' N' up') | ((with_reducible rename IsRange _ _ _ _ _ _ _ _ => hr9); k_dflt (refine loopRangeK hr9 (by assumption) (by rfl) (by k_asm) (by k_asm) ?_ ?_)) | ((with_reducible show wpAny _ _ (subscriptTail _ _ (Value.ref _) (Value.int _ _)) _ _ _); k_dflt (refine wordItem (by k_asm) (by k_mem) rfl rfl (by assumption) (by (simp only [List.size_toArray]; omega)) (by (simp only [List.size_toArray]; omega)) (by (simp only [List.size_toArray, sizeLine_eq]; omega)) ?_); intro x' t' b1' b2') | (k_here; (with_reducible show wpAny _ _ (call (Value.ref 681) _) _ _ _); k_dflt (refine cDays (by k_asm) (by k_asm) (by k_asm) (by k_asm) (by k_asm) (by k_room) (fun t' h' tk' F' N' => ?_)); (try k_sweep); (try dsimp only)) | (k_here; (with_reducible show wpAny _ _ (call (Value.ref 737) _) _ _ _); k_dflt (refine' cLawWord ?z9B ?z9F ?z9X ?z9N ?z9T ?z9d ?z9u ?z9XB ?z9TB ?z9D ?z9p ?z9q ?z9r ?z9s ?_; (case z9B => k_asm); (case z9F => k_asm); (case z9X => k_asm); (case z9N => k_asm); (case z9T => k_asm); (case z9d => k_room); (case z9u => first | exact Nat.le_of_ble_eq_true rfl | k_units); (case z9XB => assumption); (case z9TB => assumption); (case z9D => assumption); (case z9p => omega); (case z9q => omega); (case z9r => exact (modB _).1); (case z9s => exact (modB _).2); k_whole); intro g' h' tk' T9 F' B' X' T' D9 N'; k_dflt (replace F' := Fr.unturn T9 F'; replace N' := News.unturn T9 N'); clear B' X' T' D9 T9; (try dsimp only)) | (k_here; (with_reducible show wpAny _ _ (call (Value.ref 695) _) _ _ _); k_dflt (refine' cIsTime ?z9B ?z9F ?z9X ?z9N ?z9T ?z9d (fun hok' h' tk' F' N' => ?_) (fun hnt' h' tk' F' N' => ?_); (case z9B => k_asm); (case z9F => k_asm); (case z9X => k_asm); (case z9N => k_asm); (case z9T => k_asm); (case z9d => k_room); (all_goals k_whole)); (all_goals ((try k_sweep); (try dsimp only)))) | (k_here; (with_reducible show wpAny _ _ (call (Value.ref 688) _) _ _ _); k_dflt (refine' cIsDay ?z9B ?z9F ?z9X ?z9N ?z9T ?z9d (fun hok' h' tk' F' N' => ?_) (fun hnt' h' tk' F' N' => ?_); (case z9B => k_asm); (case z9F => k_asm); (case z9X => k_asm); (case z9N => k_asm); (case z9T => k_asm); (case z9d => k_room); (all_goals k_whole)); (all_goals ((try k_sweep); (try dsimp only)))) | (k_here; (with_reducible show wpAny _ _ (call (Value.ref 723) _) _ _ _); k_dflt (refine' cLawWide ?z9B ?z9F ?z9X ?z9N ?z9T ?z9d ?_; (case z9B => k_asm); (case z9F => k_asm); (case z9X => k_asm); (case z9N => k_asm); (case z9T => k_asm); (case z9d => k_room); k_whole); intro xw' tw' h' tk' F' N'; (try k_sweep); (try dsimp only)) | (k_here; (with_reducible show wpAny _ _ (call (Value.ref 730) [Value.int 1 _, _]) _ _ _); k_dflt (refine' cMade1 ?z9B ?z9F ?z9X ?z9N ?z9T ?z9d ?z9u ?z9XB ?z9TB ?z9D ?z9m (fun hok' l' g' h' tk' T9 F' B' X' T' D9 N' => ?_) (fun hnt' g' h' tk' T9 F' B' X' T' D9 N' => ?_); (case z9B => k_asm); (case z9F => k_asm); (case z9X => k_asm); (case z9N => k_asm); (case z9T => k_asm); (case z9d => k_room); (case z9u => exact Nat.le_of_ble_eq_true rfl); (case z9XB => assumption); (case z9TB => assumption); (case z9D => assumption); (case z9m => k_mem); (all_goals k_whole)); (all_goals (k_dflt (replace F' := Fr.unturn T9 F'; replace N' := News.unturn T9 N'); clear B' X' T' D9 T9; (try (first | exact absurd hok' (by assumption) | exact absurd (by assumption) hnt')); (try k_sweep); (try dsimp only)))) | (k_here; (with_reducible show wpAny _ _ (call (Value.ref 730) [Value.int 0 _, _]) _ _ _); k_dflt (refine' cMade0 ?z9B ?z9F ?z9X ?z9N ?z9T ?z9d ?z9u ?z9XB ?z9TB ?z9D ?z9m (fun hda' hok' l' g' h' tk' T9 F' B' X' T' D9 N' => ?_) (fun hnt' g' h' tk' T9 F' B' X' T' D9 N' => ?_); (case z9B => k_asm); (case z9F => k_asm); (case z9X => k_asm); (case z9N => k_asm); (case z9T => k_asm); (case z9d => k_room); (case z9u => exact Nat.le_of_ble_eq_true rfl); (case z9XB => assumption); (case z9TB => assumption); (case z9D => assumption); (case z9m => k_mem); (all_goals k_whole)); (all_goals (k_dflt (replace F' := Fr.unturn T9 F'; replace N' := News.unturn T9 N'); clear B' X' T' D9 T9; (try (first | exact absurd hda' (by assumption) | exact absurd hok' (by assumption) | exact absurd (And.intro (by assumption) (by assumption)) hnt')); (try k_sweep); (try dsimp only))))); k_steps)
            (try dsimp only [List.cons_append, List.nil_append])
            k_dflt (refine' cLawMoment ?z9B ?z9F ?z9X ?z9T ?z9d ?z9u ?z9XB ?z9TB ?z9D ?z9N ?z9m ?z9p ?z9q ?z9r ?_)
            (case z9B => k_asm)
            (case z9F => k_asm)
            (case z9X => k_asm)
            (case z9T => k_asm)
            (case z9d => k_room)
            (case z9u => exact Nat.le_of_ble_eq_true rfl)
            (case z9XB => assumption)
            (case z9TB => assumption)
            (case z9D => assumption)
            (case z9N => k_asm)
            (case z9m => k_mem)
            (case z9p => assumption)
            (case z9q => assumption)
            (case z9r => assumption)
            intro g' h' tk' T9 F' B' X' T' D9 N'
            replace F' := Fr.unturn T9 F'
            replace N' := News.unturn T9 N'
            clear B' X' T' D9 T9
            (try k_sweep)
            (try dsimp only)
            k_steps
            repeat' (refine Later.mk ?_; (first | ((with_reducible rename List.length _ ≤ 6 => hl9); refine lenWords (by k_asm) (by k_mem) (by assumption) (fun t' tk' => ?_)) | (k_dflt (refine range1_rows (by k_asm) (by k_asm) ?_); intro h' tk' t' u' v' hR' F' N' up') | ((with_reducible rename IsRange _ _ _ _ _ _ _ _ => hr9); k_dflt (refine loopRangeK hr9 (by assumption) (by rfl) (by k_asm) (by k_asm) ?_ ?_)) | ((with_reducible show wpAny _ _ (subscriptTail _ _ (Value.ref _) (Value.int _ _)) _ _ _); k_dflt (refine wordItem (by k_asm) (by k_mem) rfl rfl (by assumption) (by (simp only [List.size_toArray]; omega)) (by (simp only [List.size_toArray]; omega)) (by (simp only [List.size_toArray, sizeLine_eq]; omega)) ?_); intro x' t' b1' b2') | (k_here; (with_reducible show wpAny _ _ (call (Value.ref 681) _) _ _ _); k_dflt (refine cDays (by k_asm) (by k_asm) (by k_asm) (by k_asm) (by k_asm) (by k_room) (fun t' h' tk' F' N' => ?_)); (try k_sweep); (try dsimp only)) | (k_here; (with_reducible show wpAny _ _ (call (Value.ref 737) _) _ _ _); k_dflt (refine' cLawWord ?z9B ?z9F ?z9X ?z9N ?z9T ?z9d ?z9u ?z9XB ?z9TB ?z9D ?z9p ?z9q ?z9r ?z9s ?_; (case z9B => k_asm); (case z9F => k_asm); (case z9X => k_asm); (case z9N => k_asm); (case z9T => k_asm); (case z9d => k_room); (case z9u => first | exact Nat.le_of_ble_eq_true rfl | k_units); (case z9XB => assumption); (case z9TB => assumption); (case z9D => assumption); (case z9p => omega); (case z9q => omega); (case z9r => exact (modB _).1); (case z9s => exact (modB _).2); k_whole); intro g' h' tk' T9 F' B' X' T' D9 N'; k_dflt (replace F' := Fr.unturn T9 F'; replace N' := News.unturn T9 N'); clear B' X' T' D9 T9; (try dsimp only)) | (k_here; (with_reducible show wpAny _ _ (call (Value.ref 695) _) _ _ _); k_dflt (refine' cIsTime ?z9B ?z9F ?z9X ?z9N ?z9T ?z9d (fun hok' h' tk' F' N' => ?_) (fun hnt' h' tk' F' N' => ?_); (case z9B => k_asm); (case z9F => k_asm); (case z9X => k_asm); (case z9N => k_asm); (case z9T => k_asm); (case z9d => k_room); (all_goals k_whole)); (all_goals ((try k_sweep); (try dsimp only)))) | (k_here; (with_reducible show wpAny _ _ (call (Value.ref 688) _) _ _ _); k_dflt (refine' cIsDay ?z9B ?z9F ?z9X ?z9N ?z9T ?z9d (fun hok' h' tk' F' N' => ?_) (fun hnt' h' tk' F' N' => ?_); (case z9B => k_asm); (case z9F => k_asm); (case z9X => k_asm); (case z9N => k_asm); (case z9T => k_asm); (case z9d => k_room); (all_goals k_whole)); (all_goals ((try k_sweep); (try dsimp only)))) | (k_here; (with_reducible show wpAny _ _ (call (Value.ref 723) _) _ _ _); k_dflt (refine' cLawWide ?z9B ?z9F ?z9X ?z9N ?z9T ?z9d ?_; (case z9B => k_asm); (case z9F => k_asm); (case z9X => k_asm); (case z9N => k_asm); (case z9T => k_asm); (case z9d => k_room); k_whole); intro xw' tw' h' tk' F' N'; (try k_sweep); (try dsimp only)) | (k_here; (with_reducible show wpAny _ _ (call (Value.ref 730) [Value.int 1 _, _]) _ _ _); k_dflt (refine' cMade1 ?z9B ?z9F ?z9X ?z9N ?z9T ?z9d ?z9u ?z9XB ?z9TB ?z9D ?z9m (fun hok' l' g' h' tk' T9 F' B' X' T' D9 N' => ?_) (fun hnt' g' h' tk' T9 F' B' X' T' D9 N' => ?_); (case z9B => k_asm); (case z9F => k_asm); (case z9X => k_asm); (case z9N => k_asm); (case z9T => k_asm); (case z9d => k_room); (case z9u => exact Nat.le_of_ble_eq_true rfl); (case z9XB => assumption); (case z9TB => assumption); (case z9D => assumption); (case z9m => k_mem); (all_goals k_whole)); (all_goals (k_dflt (replace F' := Fr.unturn T9 F'; replace N' := News.unturn T9 N'); clear B' X' T' D9 T9; (try (first | exact absurd hok' (by assumption) | exact absurd (by assumption) hnt')); (try k_sweep); (try dsimp only)))) | (k_here; (with_reducible show wpAny _ _ (call (Value.ref 730) [Value.int 0 _, _]) _ _ _); k_dflt (refine' cMade0 ?z9B ?z9F ?z9X ?z9N ?z9T ?z9d ?z9u ?z9XB ?z9TB ?z9D ?z9m (fun hda' hok' l' g' h' tk' T9 F' B' X' T' D9 N' => ?_) (fun hnt' g' h' tk' T9 F' B' X' T' D9 N' => ?_); (case z9B => k_asm); (case z9F => k_asm); (case z9X => k_asm); (case z9N => k_asm); (case z9T => k_asm); (case z9d => k_room); (case z9u => exact Nat.le_of_ble_eq_true rfl); (case z9XB => assumption); (case z9TB => assumption); (case z9D => assumption); (case z9m => k_mem); (all_goals k_whole)); (all_goals (k_dflt (replace F' := Fr.unturn T9 F'; replace N' := News.unturn T9 N'); clear B' X' T' D9 T9; (try (first | exact absurd hda' (by assumption) | exact absurd hok' (by assumption) | exact absurd (And.intro (by assumption) (by assumption)) hnt')); (try k_sweep); (try dsimp only))))); k_steps)
            refine wpG_isOr (wpG_isNot (wpG_isPlain (wpG_Call_ ?_)))
            k_steps
            repeat' (refine Later.mk ?_; (first | ((with_reducible rename List.length _ ≤ 6 => hl9); refine lenWords (by k_asm) (by k_mem) (by assumption) (fun t' tk' => ?_)) | (k_dflt (refine range1_rows (by k_asm) (by k_asm) ?_); intro h' tk' t' u' v' hR' F' N' up') | ((with_reducible rename IsRange _ _ _ _ _ _ _ _ => hr9); k_dflt (refine loopRangeK hr9 (by assumption) (by rfl) (by k_asm) (by k_asm) ?_ ?_)) | ((with_reducible show wpAny _ _ (subscriptTail _ _ (Value.ref _) (Value.int _ _)) _ _ _); k_dflt (refine wordItem (by k_asm) (by k_mem) rfl rfl (by assumption) (by (simp only [List.size_toArray]; omega)) (by (simp only [List.size_toArray]; omega)) (by (simp only [List.size_toArray, sizeLine_eq]; omega)) ?_); intro x' t' b1' b2') | (k_here; (with_reducible show wpAny _ _ (call (Value.ref 681) _) _ _ _); k_dflt (refine cDays (by k_asm) (by k_asm) (by k_asm) (by k_asm) (by k_asm) (by k_room) (fun t' h' tk' F' N' => ?_)); (try k_sweep); (try dsimp only)) | (k_here; (with_reducible show wpAny _ _ (call (Value.ref 737) _) _ _ _); k_dflt (refine' cLawWord ?z9B ?z9F ?z9X ?z9N ?z9T ?z9d ?z9u ?z9XB ?z9TB ?z9D ?z9p ?z9q ?z9r ?z9s ?_; (case z9B => k_asm); (case z9F => k_asm); (case z9X => k_asm); (case z9N => k_asm); (case z9T => k_asm); (case z9d => k_room); (case z9u => first | exact Nat.le_of_ble_eq_true rfl | k_units); (case z9XB => assumption); (case z9TB => assumption); (case z9D => assumption); (case z9p => omega); (case z9q => omega); (case z9r => exact (modB _).1); (case z9s => exact (modB _).2); k_whole); intro g' h' tk' T9 F' B' X' T' D9 N'; k_dflt (replace F' := Fr.unturn T9 F'; replace N' := News.unturn T9 N'); clear B' X' T' D9 T9; (try dsimp only)) | (k_here; (with_reducible show wpAny _ _ (call (Value.ref 695) _) _ _ _); k_dflt (refine' cIsTime ?z9B ?z9F ?z9X ?z9N ?z9T ?z9d (fun hok' h' tk' F' N' => ?_) (fun hnt' h' tk' F' N' => ?_); (case z9B => k_asm); (case z9F => k_asm); (case z9X => k_asm); (case z9N => k_asm); (case z9T => k_asm); (case z9d => k_room); (all_goals k_whole)); (all_goals ((try k_sweep); (try dsimp only)))) | (k_here; (with_reducible show wpAny _ _ (call (Value.ref 688) _) _ _ _); k_dflt (refine' cIsDay ?z9B ?z9F ?z9X ?z9N ?z9T ?z9d (fun hok' h' tk' F' N' => ?_) (fun hnt' h' tk' F' N' => ?_); (case z9B => k_asm); (case z9F => k_asm); (case z9X => k_asm); (case z9N => k_asm); (case z9T => k_asm); (case z9d => k_room); (all_goals k_whole)); (all_goals ((try k_sweep); (try dsimp only)))) | (k_here; (with_reducible show wpAny _ _ (call (Value.ref 723) _) _ _ _); k_dflt (refine' cLawWide ?z9B ?z9F ?z9X ?z9N ?z9T ?z9d ?_; (case z9B => k_asm); (case z9F => k_asm); (case z9X => k_asm); (case z9N => k_asm); (case z9T => k_asm); (case z9d => k_room); k_whole); intro xw' tw' h' tk' F' N'; (try k_sweep); (try dsimp only)) | (k_here; (with_reducible show wpAny _ _ (call (Value.ref 730) [Value.int 1 _, _]) _ _ _); k_dflt (refine' cMade1 ?z9B ?z9F ?z9X ?z9N ?z9T ?z9d ?z9u ?z9XB ?z9TB ?z9D ?z9m (fun hok' l' g' h' tk' T9 F' B' X' T' D9 N' => ?_) (fun hnt' g' h' tk' T9 F' B' X' T' D9 N' => ?_); (case z9B => k_asm); (case z9F => k_asm); (case z9X => k_asm); (case z9N => k_asm); (case z9T => k_asm); (case z9d => k_room); (case z9u => exact Nat.le_of_ble_eq_true rfl); (case z9XB => assumption); (case z9TB => assumption); (case z9D => assumption); (case z9m => k_mem); (all_goals k_whole)); (all_goals (k_dflt (replace F' := Fr.unturn T9 F'; replace N' := News.unturn T9 N'); clear B' X' T' D9 T9; (try (first | exact absurd hok' (by assumption) | exact absurd (by assumption) hnt')); (try k_sweep); (try dsimp only)))) | (k_here; (with_reducible show wpAny _ _ (call (Value.ref 730) [Value.int 0 _, _]) _ _ _); k_dflt (refine' cMade0 ?z9B ?z9F ?z9X ?z9N ?z9T ?z9d ?z9u ?z9XB ?z9TB ?z9D ?z9m (fun hda' hok' l' g' h' tk' T9 F' B' X' T' D9 N' => ?_) (fun hnt' g' h' tk' T9 F' B' X' T' D9 N' => ?_); (case z9B => k_asm); (case z9F => k_asm); (case z9X => k_asm); (case z9N => k_asm); (case z9T => k_asm); (case z9d => k_room); (case z9u => exact Nat.le_of_ble_eq_true rfl); (case z9XB => assumption); (case z9TB => assumption); (case z9D => assumption); (case z9m => k_mem); (all_goals k_whole)); (all_goals (k_dflt (replace F' := Fr.unturn T9 F'; replace N' := News.unturn T9 N'); clear B' X' T' D9 T9; (try (first | exact absurd hda' (by assumption) | exact absurd hok' (by assumption) | exact absurd (And.intro (by assumption) (by assumption)) hnt')); (try k_sweep); (try dsimp only))))); k_steps)
            refine wpG_callWith_K (h₀ := s₁.heap) (K := Mine.hd.heap_39 w.params) (by k_is) ?_
            k_steps
            repeat' (refine Later.mk ?_; (first | ((with_reducible rename List.length _ ≤ 6 => hl9); refine lenWords (by k_asm) (by k_mem) (by assumption) (fun t' tk' => ?_)) | (k_dflt (refine range1_rows (by k_asm) (by k_asm) ?_); intro h' tk' t' u' v' hR' F' N' up') | ((with_reducible rename IsRange _ _ _ _ _ _ _ _ => hr9); k_dflt (refine loopRangeK hr9 (by assumption) (by rfl) (by k_asm) (by k_asm) ?_ ?_)) | ((with_reducible show wpAny _ _ (subscriptTail _ _ (Value.ref _) (Value.int _ _)) _ _ _); k_dflt (refine wordItem (by k_asm) (by k_mem) rfl rfl (by assumption) (by (simp only [List.size_toArray]; omega)) (by (simp only [List.size_toArray]; omega)) (by (simp only [List.size_toArray, sizeLine_eq]; omega)) ?_); intro x' t' b1' b2') | (k_here; (with_reducible show wpAny _ _ (call (Value.ref 681) _) _ _ _); k_dflt (refine cDays (by k_asm) (by k_asm) (by k_asm) (by k_asm) (by k_asm) (by k_room) (fun t' h' tk' F' N' => ?_)); (try k_sweep); (try dsimp only)) | (k_here; (with_reducible show wpAny _ _ (call (Value.ref 737) _) _ _ _); k_dflt (refine' cLawWord ?z9B ?z9F ?z9X ?z9N ?z9T ?z9d ?z9u ?z9XB ?z9TB ?z9D ?z9p ?z9q ?z9r ?z9s ?_; (case z9B => k_asm); (case z9F => k_asm); (case z9X => k_asm); (case z9N => k_asm); (case z9T => k_asm); (case z9d => k_room); (case z9u => first | exact Nat.le_of_ble_eq_true rfl | k_units); (case z9XB => assumption); (case z9TB => assumption); (case z9D => assumption); (case z9p => omega); (case z9q => omega); (case z9r => exact (modB _).1); (case z9s => exact (modB _).2); k_whole); intro g' h' tk' T9 F' B' X' T' D9 N'; k_dflt (replace F' := Fr.unturn T9 F'; replace N' := News.unturn T9 N'); clear B' X' T' D9 T9; (try dsimp only)) | (k_here; (with_reducible show wpAny _ _ (call (Value.ref 695) _) _ _ _); k_dflt (refine' cIsTime ?z9B ?z9F ?z9X ?z9N ?z9T ?z9d (fun hok' h' tk' F' N' => ?_) (fun hnt' h' tk' F' N' => ?_); (case z9B => k_asm); (case z9F => k_asm); (case z9X => k_asm); (case z9N => k_asm); (case z9T => k_asm); (case z9d => k_room); (all_goals k_whole)); (all_goals ((try k_sweep); (try dsimp only)))) | (k_here; (with_reducible show wpAny _ _ (call (Value.ref 688) _) _ _ _); k_dflt (refine' cIsDay ?z9B ?z9F ?z9X ?z9N ?z9T ?z9d (fun hok' h' tk' F' N' => ?_) (fun hnt' h' tk' F' N' => ?_); (case z9B => k_asm); (case z9F => k_asm); (case z9X => k_asm); (case z9N => k_asm); (case z9T => k_asm); (case z9d => k_room); (all_goals k_whole)); (all_goals ((try k_sweep); (try dsimp only)))) | (k_here; (with_reducible show wpAny _ _ (call (Value.ref 723) _) _ _ _); k_dflt (refine' cLawWide ?z9B ?z9F ?z9X ?z9N ?z9T ?z9d ?_; (case z9B => k_asm); (case z9F => k_asm); (case z9X => k_asm); (case z9N => k_asm); (case z9T => k_asm); (case z9d => k_room); k_whole); intro xw' tw' h' tk' F' N'; (try k_sweep); (try dsimp only)) | (k_here; (with_reducible show wpAny _ _ (call (Value.ref 730) [Value.int 1 _, _]) _ _ _); k_dflt (refine' cMade1 ?z9B ?z9F ?z9X ?z9N ?z9T ?z9d ?z9u ?z9XB ?z9TB ?z9D ?z9m (fun hok' l' g' h' tk' T9 F' B' X' T' D9 N' => ?_) (fun hnt' g' h' tk' T9 F' B' X' T' D9 N' => ?_); (case z9B => k_asm); (case z9F => k_asm); (case z9X => k_asm); (case z9N => k_asm); (case z9T => k_asm); (case z9d => k_room); (case z9u => exact Nat.le_of_ble_eq_true rfl); (case z9XB => assumption); (case z9TB => assumption); (case z9D => assumption); (case z9m => k_mem); (all_goals k_whole)); (all_goals (k_dflt (replace F' := Fr.unturn T9 F'; replace N' := News.unturn T9 N'); clear B' X' T' D9 T9; (try (first | exact absurd hok' (by assumption) | exact absurd (by assumption) hnt')); (try k_sweep); (try dsimp only)))) | (k_here; (with_reducible show wpAny _ _ (call (Value.ref 730) [Value.int 0 _, _]) _ _ _); k_dflt (refine' cMade0 ?z9B ?z9F ?z9X ?z9N ?z9T ?z9d ?z9u ?z9XB ?z9TB ?z9D ?z9m (fun hda' hok' l' g' h' tk' T9 F' B' X' T' D9 N' => ?_) (fun hnt' g' h' tk' T9 F' B' X' T' D9 N' => ?_); (case z9B => k_asm); (case z9F => k_asm); (case z9X => k_asm); (case z9N => k_asm); (case z9T => k_asm); (case z9d => k_room); (case z9u => exact Nat.le_of_ble_eq_true rfl); (case z9XB => assumption); (case z9TB => assumption); (case z9D => assumption); (case z9m => k_mem); (all_goals k_whole)); (all_goals (k_dflt (replace F' := Fr.unturn T9 F'; replace N' := News.unturn T9 N'); clear B' X' T' D9 T9; (try (first | exact absurd hda' (by assumption) | exact absurd hok' (by assumption) | exact absurd (And.intro (by assumption) (by assumption)) hnt')); (try k_sweep); (try dsimp only))))); k_steps)
            (try dsimp only [List.cons_append, List.nil_append])
            k_dflt (refine' cLawMoment ?z9B ?z9F ?z9X ?z9T ?z9d ?z9u ?z9XB ?z9TB ?z9D ?z9N ?z9m ?z9p ?z9q ?z9r ?_)
            (case z9B => k_asm)
            (case z9F => k_asm)
            (case z9X => k_asm)
            (case z9T => k_asm)
            (case z9d => k_room)
            (case z9u => exact Nat.le_of_ble_eq_true rfl)
            (case z9XB => assumption)
            (case z9TB => assumption)
            (case z9D => assumption)
            (case z9N => k_asm)
            (case z9m => k_mem)
            (case z9p => assumption)
            (case z9q => assumption)
            (case z9r => assumption)
            intro g' h' tk' T9 F' B' X' T' D9 N'
            replace F' := Fr.unturn T9 F'
            replace N' := News.unturn T9 N'
            clear B' X' T' D9 T9
            (try k_sweep)
            (try dsimp only)
            k_steps
            repeat' (refine Later.mk ?_; (first | ((with_reducible rename List.length _ ≤ 6 => hl9); refine lenWords (by k_asm) (by k_mem) (by assumption) (fun t' tk' => ?_)) | (k_dflt (refine range1_rows (by k_asm) (by k_asm) ?_); intro h' tk' t' u' v' hR' F' N' up') | ((with_reducible rename IsRange _ _ _ _ _ _ _ _ => hr9); k_dflt (refine loopRangeK hr9 (by assumption) (by rfl) (by k_asm) (by k_asm) ?_ ?_)) | ((with_reducible show wpAny _ _ (subscriptTail _ _ (Value.ref _) (Value.int _ _)) _ _ _); k_dflt (refine wordItem (by k_asm) (by k_mem) rfl rfl (by assumption) (by (simp only [List.size_toArray]; omega)) (by (simp only [List.size_toArray]; omega)) (by (simp only [List.size_toArray, sizeLine_eq]; omega)) ?_); intro x' t' b1' b2') | (k_here; (with_reducible show wpAny _ _ (call (Value.ref 681) _) _ _ _); k_dflt (refine cDays (by k_asm) (by k_asm) (by k_asm) (by k_asm) (by k_asm) (by k_room) (fun t' h' tk' F' N' => ?_)); (try k_sweep); (try dsimp only)) | (k_here; (with_reducible show wpAny _ _ (call (Value.ref 737) _) _ _ _); k_dflt (refine' cLawWord ?z9B ?z9F ?z9X ?z9N ?z9T ?z9d ?z9u ?z9XB ?z9TB ?z9D ?z9p ?z9q ?z9r ?z9s ?_; (case z9B => k_asm); (case z9F => k_asm); (case z9X => k_asm); (case z9N => k_asm); (case z9T => k_asm); (case z9d => k_room); (case z9u => first | exact Nat.le_of_ble_eq_true rfl | k_units); (case z9XB => assumption); (case z9TB => assumption); (case z9D => assumption); (case z9p => omega); (case z9q => omega); (case z9r => exact (modB _).1); (case z9s => exact (modB _).2); k_whole); intro g' h' tk' T9 F' B' X' T' D9 N'; k_dflt (replace F' := Fr.unturn T9 F'; replace N' := News.unturn T9 N'); clear B' X' T' D9 T9; (try dsimp only)) | (k_here; (with_reducible show wpAny _ _ (call (Value.ref 695) _) _ _ _); k_dflt (refine' cIsTime ?z9B ?z9F ?z9X ?z9N ?z9T ?z9d (fun hok' h' tk' F' N' => ?_) (fun hnt' h' tk' F' N' => ?_); (case z9B => k_asm); (case z9F => k_asm); (case z9X => k_asm); (case z9N => k_asm); (case z9T => k_asm); (case z9d => k_room); (all_goals k_whole)); (all_goals ((try k_sweep); (try dsimp only)))) | (k_here; (with_reducible show wpAny _ _ (call (Value.ref 688) _) _ _ _); k_dflt (refine' cIsDay ?z9B ?z9F ?z9X ?z9N ?z9T ?z9d (fun hok' h' tk' F' N' => ?_) (fun hnt' h' tk' F' N' => ?_); (case z9B => k_asm); (case z9F => k_asm); (case z9X => k_asm); (case z9N => k_asm); (case z9T => k_asm); (case z9d => k_room); (all_goals k_whole)); (all_goals ((try k_sweep); (try dsimp only)))) | (k_here; (with_reducible show wpAny _ _ (call (Value.ref 723) _) _ _ _); k_dflt (refine' cLawWide ?z9B ?z9F ?z9X ?z9N ?z9T ?z9d ?_; (case z9B => k_asm); (case z9F => k_asm); (case z9X => k_asm); (case z9N => k_asm); (case z9T => k_asm); (case z9d => k_room); k_whole); intro xw' tw' h' tk' F' N'; (try k_sweep); (try dsimp only)) | (k_here; (with_reducible show wpAny _ _ (call (Value.ref 730) [Value.int 1 _, _]) _ _ _); k_dflt (refine' cMade1 ?z9B ?z9F ?z9X ?z9N ?z9T ?z9d ?z9u ?z9XB ?z9TB ?z9D ?z9m (fun hok' l' g' h' tk' T9 F' B' X' T' D9 N' => ?_) (fun hnt' g' h' tk' T9 F' B' X' T' D9 N' => ?_); (case z9B => k_asm); (case z9F => k_asm); (case z9X => k_asm); (case z9N => k_asm); (case z9T => k_asm); (case z9d => k_room); (case z9u => exact Nat.le_of_ble_eq_true rfl); (case z9XB => assumption); (case z9TB => assumption); (case z9D => assumption); (case z9m => k_mem); (all_goals k_whole)); (all_goals (k_dflt (replace F' := Fr.unturn T9 F'; replace N' := News.unturn T9 N'); clear B' X' T' D9 T9; (try (first | exact absurd hok' (by assumption) | exact absurd (by assumption) hnt')); (try k_sweep); (try dsimp only)))) | (k_here; (with_reducible show wpAny _ _ (call (Value.ref 730) [Value.int 0 _, _]) _ _ _); k_dflt (refine' cMade0 ?z9B ?z9F ?z9X ?z9N ?z9T ?z9d ?z9u ?z9XB ?z9TB ?z9D ?z9m (fun hda' hok' l' g' h' tk' T9 F' B' X' T' D9 N' => ?_) (fun hnt' g' h' tk' T9 F' B' X' T' D9 N' => ?_); (case z9B => k_asm); (case z9F => k_asm); (case z9X => k_asm); (case z9N => k_asm); (case z9T => k_asm); (case z9d => k_room); (case z9u => exact Nat.le_of_ble_eq_true rfl); (case z9XB => assumption); (case z9TB => assumption); (case z9D => assumption); (case z9m => k_mem); (all_goals k_whole)); (all_goals (k_dflt (replace F' := Fr.unturn T9 F'; replace N' := News.unturn T9 N'); clear B' X' T' D9 T9; (try (first | exact absurd hda' (by assumption) | exact absurd hok' (by assumption) | exact absurd (And.intro (by assumption) (by assumption)) hnt')); (try k_sweep); (try dsimp only))))); k_steps)
            refine wpG_isOrNil ?_
            (try dsimp only)
            refine wpG.nil ?_
            (try dsimp only)
            refine wpG.nil ?_
            refine ⟨_, _, _, rfl, by assumption, News.drop9 (by assumption) (subC (by k_mem) (subC (by k_mem) (fun _ h => nomatch h))), trivial⟩
    · intro h6 tk6 m6 F6
      dsimp only
      refine wpG.any ?_
      k_steps
      repeat' (refine Later.mk ?_; (first | ((with_reducible rename List.length _ ≤ 6 => hl9); refine lenWords (by k_asm) (by k_mem) (by assumption) (fun t' tk' => ?_)) | (k_dflt (refine range1_rows (by k_asm) (by k_asm) ?_); intro h' tk' t' u' v' hR' F' N' up') | ((with_reducible rename IsRange _ _ _ _ _ _ _ _ => hr9); k_dflt (refine loopRangeK hr9 (by assumption) (by rfl) (by k_asm) (by k_asm) ?_ ?_)) | ((with_reducible show wpAny _ _ (subscriptTail _ _ (Value.ref _) (Value.int _ _)) _ _ _); k_dflt (refine wordItem (by k_asm) (by k_mem) rfl rfl (by assumption) (by (simp only [List.size_toArray]; omega)) (by (simp only [List.size_toArray]; omega)) (by (simp only [List.size_toArray, sizeLine_eq]; omega)) ?_); intro x' t' b1' b2') | (k_here; (with_reducible show wpAny _ _ (call (Value.ref 681) _) _ _ _); k_dflt (refine cDays (by k_asm) (by k_asm) (by k_asm) (by k_asm) (by k_asm) (by k_room) (fun t' h' tk' F' N' => ?_)); (try k_sweep); (try dsimp only)) | (k_here; (with_reducible show wpAny _ _ (call (Value.ref 737) _) _ _ _); k_dflt (refine' cLawWord ?z9B ?z9F ?z9X ?z9N ?z9T ?z9d ?z9u ?z9XB ?z9TB ?z9D ?z9p ?z9q ?z9r ?z9s ?_; (case z9B => k_asm); (case z9F => k_asm); (case z9X => k_asm); (case z9N => k_asm); (case z9T => k_asm); (case z9d => k_room); (case z9u => first | exact Nat.le_of_ble_eq_true rfl | k_units); (case z9XB => assumption); (case z9TB => assumption); (case z9D => assumption); (case z9p => omega); (case z9q => omega); (case z9r => exact (modB _).1); (case z9s => exact (modB _).2); k_whole); intro g' h' tk' T9 F' B' X' T' D9 N'; k_dflt (replace F' := Fr.unturn T9 F'; replace N' := News.unturn T9 N'); clear B' X' T' D9 T9; (try dsimp only)) | (k_here; (with_reducible show wpAny _ _ (call (Value.ref 695) _) _ _ _); k_dflt (refine' cIsTime ?z9B ?z9F ?z9X ?z9N ?z9T ?z9d (fun hok' h' tk' F' N' => ?_) (fun hnt' h' tk' F' N' => ?_); (case z9B => k_asm); (case z9F => k_asm); (case z9X => k_asm); (case z9N => k_asm); (case z9T => k_asm); (case z9d => k_room); (all_goals k_whole)); (all_goals ((try k_sweep); (try dsimp only)))) | (k_here; (with_reducible show wpAny _ _ (call (Value.ref 688) _) _ _ _); k_dflt (refine' cIsDay ?z9B ?z9F ?z9X ?z9N ?z9T ?z9d (fun hok' h' tk' F' N' => ?_) (fun hnt' h' tk' F' N' => ?_); (case z9B => k_asm); (case z9F => k_asm); (case z9X => k_asm); (case z9N => k_asm); (case z9T => k_asm); (case z9d => k_room); (all_goals k_whole)); (all_goals ((try k_sweep); (try dsimp only)))) | (k_here; (with_reducible show wpAny _ _ (call (Value.ref 723) _) _ _ _); k_dflt (refine' cLawWide ?z9B ?z9F ?z9X ?z9N ?z9T ?z9d ?_; (case z9B => k_asm); (case z9F => k_asm); (case z9X => k_asm); (case z9N => k_asm); (case z9T => k_asm); (case z9d => k_room); k_whole); intro xw' tw' h' tk' F' N'; (try k_sweep); (try dsimp only)) | (k_here; (with_reducible show wpAny _ _ (call (Value.ref 730) [Value.int 1 _, _]) _ _ _); k_dflt (refine' cMade1 ?z9B ?z9F ?z9X ?z9N ?z9T ?z9d ?z9u ?z9XB ?z9TB ?z9D ?z9m (fun hok' l' g' h' tk' T9 F' B' X' T' D9 N' => ?_) (fun hnt' g' h' tk' T9 F' B' X' T' D9 N' => ?_); (case z9B => k_asm); (case z9F => k_asm); (case z9X => k_asm); (case z9N => k_asm); (case z9T => k_asm); (case z9d => k_room); (case z9u => exact Nat.le_of_ble_eq_true rfl); (case z9XB => assumption); (case z9TB => assumption); (case z9D => assumption); (case z9m => k_mem); (all_goals k_whole)); (all_goals (k_dflt (replace F' := Fr.unturn T9 F'; replace N' := News.unturn T9 N'); clear B' X' T' D9 T9; (try (first | exact absurd hok' (by assumption) | exact absurd (by assumption) hnt')); (try k_sweep); (try dsimp only)))) | (k_here; (with_reducible show wpAny _ _ (call (Value.ref 730) [Value.int 0 _, _]) _ _ _); k_dflt (refine' cMade0 ?z9B ?z9F ?z9X ?z9N ?z9T ?z9d ?z9u ?z9XB ?z9TB ?z9D ?z9m (fun hda' hok' l' g' h' tk' T9 F' B' X' T' D9 N' => ?_) (fun hnt' g' h' tk' T9 F' B' X' T' D9 N' => ?_); (case z9B => k_asm); (case z9F => k_asm); (case z9X => k_asm); (case z9N => k_asm); (case z9T => k_asm); (case z9d => k_room); (case z9u => exact Nat.le_of_ble_eq_true rfl); (case z9XB => assumption); (case z9TB => assumption); (case z9D => assumption); (case z9m => k_mem); (all_goals k_whole)); (all_goals (k_dflt (replace F' := Fr.unturn T9 F'; replace N' := News.unturn T9 N'); clear B' X' T' D9 T9; (try (first | exact absurd hda' (by assumption) | exact absurd hok' (by assumption) | exact absurd (And.intro (by assumption) (by assumption)) hnt')); (try k_sweep); (try dsimp only))))); k_steps)
      dsimp only
      refine hQ9 _ _ ?_
      dsimp only
      refine GoodW.toG (goodW_bool F6 hg (raisesW_false ?_) ?_)
      · wrow_none_raised
      · wrow_post
end
end Mine
end
end
theorem PySem.Challenge.cw_jr0027_01_holds : PySem.Challenge.rw_jr0027_01.Holds := by
  exact Mine.lawHolds
