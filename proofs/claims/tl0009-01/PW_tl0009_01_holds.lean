import PyProof.Rows.All
import Wide.All
import OpenK.AllK
import Wide.FinOn
import PyProof.IsiBase
import PySem.Challenge.RW_tl0009_01
set_option Elab.async false
set_option maxRecDepth 100000
set_option maxHeartbeats 8000000
set_option linter.all false

section PartH0
open PySem PySem.W PyProof.Rows PySem.Calls
namespace MineHead

section
variable {R : WRecords} {cl : PySem.Str → Option Addr} {P : Params} {ord : List DictEntry → List DictEntry}
mutual
theorem lay_up : ∀ (d : WData) (s : Shared) (r : Value × Shared), layW R cl P ord d s = some r → s.toks ≤ r.2.toks
  | .none, _, _, h | .bool _, _, _, h => by simp only [layW, Option.some.injEq] at h; subst h; exact Nat.le_refl _
  | .int _, _, _, h | .str _, _, _, h | .float _, _, _, h | .bytes _, _, _, h => by simp only [layW, Option.some.injEq] at h; subst h; exact Nat.le_succ _
  | .bytearray _, _, _, h => by simp only [layW, Option.some.injEq] at h; subst h; exact Nat.le_refl _
  | .list xs, s, _, h => by obtain ⟨q, hq, rfl⟩ := layW_list h; exact layAll_up xs s q hq
  | .tuple xs, s, _, h => by obtain ⟨q, hq, rfl⟩ := layW_tuple h; exact layAll_up xs s q hq
  | .dict xs, s, _, h => by obtain ⟨q, hq, rfl⟩ := layW_dict h; exact layKv_up xs s q hq
  | .set xs, s, _, h => by obtain ⟨q, hq, rfl⟩ := layW_set h; exact layElems_up xs s q hq
  | .frozenset xs, s, _, h => by obtain ⟨q, hq, rfl⟩ := layW_frozenset h; exact layElems_up xs s q hq
  | .obj _ xs, s, _, h => by obtain ⟨_, _, q, _, _, _, hq, rfl⟩ := layW_obj h; exact layFields_up xs s q hq
theorem layAll_up : ∀ (xs : List WData) (s : Shared) (r : List Value × Shared), layAllW R cl P ord xs s = some r → s.toks ≤ r.2.toks
  | [], _, _, h => by simp only [layAllW, Option.some.injEq] at h; subst h; exact Nat.le_refl _
  | x :: xs, s, _, h => by obtain ⟨a, q, ha, hq, rfl⟩ := layAllW_cons h; exact Nat.le_trans (lay_up x s a ha) (layAll_up xs a.2 q hq)
theorem layKv_up : ∀ (xs : List (WData × WData)) (s : Shared) (r : List DictEntry × Shared), layKvW R cl P ord xs s = some r → s.toks ≤ r.2.toks
  | [], _, _, h => by simp only [layKvW, Option.some.injEq] at h; subst h; exact Nat.le_refl _
  | (k, v) :: xs, s, _, h => by obtain ⟨a, b, q, ha, hb, hq, rfl⟩ := layKvW_cons h; exact Nat.le_trans (lay_up k s a ha) (Nat.le_trans (lay_up v a.2 b hb) (layKv_up xs b.2 q hq))
theorem layElems_up : ∀ (xs : List WData) (s : Shared) (r : List DictEntry × Shared), layElemsW R cl P ord xs s = some r → s.toks ≤ r.2.toks
  | [], _, _, h => by simp only [layElemsW, Option.some.injEq] at h; subst h; exact Nat.le_refl _
  | x :: xs, s, _, h => by obtain ⟨a, q, ha, hq, rfl⟩ := layElemsW_cons h; exact Nat.le_trans (lay_up x s a ha) (layElems_up xs a.2 q hq)
theorem layFields_up : ∀ (xs : List (PySem.Str × WData)) (s : Shared) (r : List DictEntry × Shared), layFieldsW R cl P ord xs s = some r → s.toks ≤ r.2.toks
  | [], _, _, h => by simp only [layFieldsW, Option.some.injEq] at h; subst h; exact Nat.le_refl _
  | (f, v) :: xs, s, _, h => by obtain ⟨b, q, hb, hq, rfl⟩ := layFieldsW_cons h; exact Nat.le_trans (Nat.le_succ _) (Nat.le_trans (lay_up v { s with toks := s.toks + 1 } b hb) (layFields_up xs b.2 q hq))
end
end

/-- the walk over a law's call, with a floor under the tokens -/
abbrev WalkT (q : Program) (loose : List PySem.Str) (XP : (PySem.Str → Option Value) → Heap → Prop) (YP : World → Heap → Prop) (r : RowW) (d : DefRec) (kwd : List (PySem.Str × PySem.Expr)) : Prop :=
  ∀ (w : World) (s₀ s₁ : Shared) (mg mb : PySem.Str → Option Value), Ground q loose r.records XP w s₀ mg mb s₁.heap → YP w s₁.heap → 499 ≤ s₁.toks → ∀ (a : Addr) (o : Obj) (pm cd doc dV kV : Value), s₁.heap.get? a = some o →
    o.data = .func { docDef d.name d.params d.body d.scope pm cd doc with defaults := dV, kwdefaults := kV } → s₁.heap.CodeRec cd d.name → Dflts mg s₁.heap d.params kwd dV kV → mg d.name = some (.ref a) → s₁.gens = #[] →
    ∀ (args : List WData) (vals : List Value) (as : List Addr), r.claim.pre args = true → WData.layableAll args = true → ReadsAllW r.records (classAt s₀.heap) s₁.heap vals args as → WellAll w.params s₁.heap vals args → (∀ a ∈ as, (a == sysModules) = false) →
      wpAny (model r.prog w) callerA (PySem.call (.ref a) vals) (fun v s' => GoodWG r.claim (classAt s₀.heap) (ExcName.means s₀.heap) args s₁ (.ok (.ret v)) s')
        (fun e s' => GoodWG r.claim (classAt s₀.heap) (ExcName.means s₀.heap) args s₁ (.error e) s') s₁

/-- the head, with a floor under the tokens: what o_head asks of its own, and one look more -/
theorem PySem.W.holds_open {r : OpenRow} {q : Program} {loose : List PySem.Str} {Xt : Shared → Bool} {XP : (PySem.Str → Option Value) → Heap → Prop} {α : Type} {Yf : Shared → α} {Ya : World → α} {YP : World → Heap → Prop} {d : DefRec} {kwd : List (PySem.Str × PySem.Expr)} {N : Nat}
    (left : LeftO r.prog q loose Xt (fun s => (Yf s, Nat.ble 499 s.toks)) (fun w => (Ya w, true)) N) (hY : ∀ w s, Yf s = Ya w → YP w s.heap) (hYk : ∀ w h h', YP w h → (∀ b o, h.get? b = some o → h'.get? b = some o) → YP w h')
    (hX : ∀ s, Xt s = true → XP (s.heap.nsMap mainGlobals) s.heap) (hXk : ∀ mg h h', XP mg h → (∀ b o, h.get? b = some o → h'.get? b = some o) → XP mg h')
    (hdef : defOf q r.name = some (d, kwd)) (hp : r.prog.theDef r.name = some (d.params, d.body, d.scope)) (hk : kwWritten? d.params.kwonlyargs d.params.kw_defaults = some kwd) (hRf : ∀ s, Xt s = true → RecFacts r.records s.heap) (hwr : (!r.writes || r.records.isEmpty) = true)
    (k1 : r.wellSaid = true) (ok : (chainsOk q && opensWell r.prog && (frees r.toRowW && r.within.isEmpty)) = true) (hb : r.prog.bare) (hw : r.toRowW.promised)
    (call : WalkT q loose XP YP r.toRowW d kwd) : r.Holds := by
  simp only [Bool.and_eq_true, List.isEmpty_iff] at ok
  obtain ⟨⟨hch, how⟩, hfr, hwi⟩ := ok
  obtain ⟨hsame, hun, haf, hap, hmk⟩ := frees_parts hfr
  have all := left.behind (XP := fun mg h => XP mg h ∧ RecFacts r.records h) (fun s e => ⟨hX s e, hRf s e⟩) hch
  refine ⟨k1, hw, ⟨hb, how, by show r.makers.map _ = []; rw [hmk]; rfl⟩, hw.witness, fun w => ⟨(all w).1, fun s' run => ?_⟩⟩
  obtain ⟨b₀, fence, ge, b, top, sleep, gs, ns, G, obs⟩ := (all w).2 s' run
  have up : 499 ≤ b.toks := Nat.le_of_ble_eq_true (congrArg Prod.snd obs)
  have G' : Ground q loose [] XP w b (b.heap.nsMap mainGlobals) (b.heap.nsMap builtinsNs) b.heap :=
    ⟨G.T, G.B, G.D, G.TE, G.TD, G.W, G.X.1, G.cls, G.has, G.apart, G.once, G.K⟩
  have GR := G.X.2.ground G'
  have ge' : b.gens = #[] := Array.eq_empty_of_size_eq_zero (beq_iff_eq.mp gs)
  refine ⟨b₀, fence, ge, b, top, fun n hn => ?_, G.X.2.1, G.X.2.2.1, ClaimW.callFrom_of_specG (c := r.claim) sleep ge' fun args pre lay ord perm => ?_⟩
  · obtain rfl : n = r.name := by split at hn <;> simp_all
    exact pinned_of_view ns G' hdef hp hk
  obtain ⟨⟨vs, s₁⟩, hl⟩ := Option.isSome_iff_exists.mp (layAllW_isSome (P := w.params) (ord := ord) GR.has args r.args b (pre_splitW pre).1)
  have kp := layAllW_keeps _ _ _ hl
  have alike := layAllW_rest _ _ _ hl
  obtain ⟨as, reads, within, old⟩ := reads_layAllW perm _ _ _ hl lay s₁.heap fun _ _ e => e
  have L : Laid r.records w b s₁ args vs as := ⟨⟨ord, perm, hl⟩, reads, within, old, kp, alike.1.trans ge', alike.2.2.1⟩
  have G₁ := GR.keeps hXk kp
  obtain ⟨a, o, pm, cd, doc, dV, kV, h1, h2, h3, h4, h5⟩ := G₁.fn hdef
  have done := call w b s₁ _ _ G₁ (hYk _ _ _ (hY w b (congrArg Prod.fst obs)) kp) (Nat.le_trans up (layAll_up _ _ _ hl)) a o pm cd doc dV kV h2 h3 h4 h5 (defOf_name hdef ▸ h1) L.gens args vs as pre lay L.reads L.well (L.low GR.low)
  have fin : ∀ {x : Result} {z : Shared}, GoodWG r.claim (classAt b.heap) (ExcName.means b.heap) args s₁ x z → _ := fun g => g.laid (c := r.claim) hsame hwi (ident_freeW hun haf hap) L
  have names : ∀ {x : Result} {z : Shared}, GoodWG r.claim (classAt b.heap) (ExcName.means b.heap) args s₁ x z → namesKept r.prog r.keeps b.heap z.heap := fun g => namesKept_of top ns r.keeps kp g.2.1.old
  refine ⟨vs, s₁, hl, wpAny_bind (wpAny_nsGet G₁.T.g (by rw [h1]; exact wpAny_bind (wpAny_mono done (fun v z g => wpAny_pure ⟨_, rfl, (fin g).1, (fin g).2.1, (fin g).2.2, fun q => ⟨names g, noTable hwr q⟩⟩) fun e z g => ⟨(fin g).1, (fin g).2.1, (fin g).2.2, fun q => ⟨names g, noTable hwr q⟩⟩)))⟩
end MineHead
end PartH0

section PartK0
open PySem PySem.W PyProof.Rows
namespace MineHead
/-- the object of the text's def number i -/
noncomputable def fnK (i : Nat) (pm : PySem.Str) (t : Tok) (c : Addr) : Obj :=
  match PySem.Challenge.pw_tl0009_01.main.body[i]? with
  | some (.FunctionDef name params body _ _ _ scope _ _ _) => { cls := .type "function", data := .func { name, qualname := name, params, body := .stmts body, scope, globals := 3, closure := [], defaults := .none, kwdefaults := .none, pyModule := .str pm t, code := .ref c } }
  | _ => { cls := .none, data := .plain }
noncomputable def oK2 (P : Params) : Obj :=
  { cls := PySem.Value.none,
    data :=
      PySem.Data.dict
        #[{ hash := PySem.PyData.keyHash P (PySem.Str.ofString "\x69mport.loaded._sre"),
            key := PySem.Value.str (PySem.Str.ofString "\x69mport.loaded._sre") 183, val := PySem.Value.bool true },
          { hash := PySem.PyData.keyHash P (PySem.Str.ofString "class._frozen_importlib.BuiltinImporter"),
            key := PySem.Value.str (PySem.Str.ofString "class._frozen_importlib.BuiltinImporter") 185,
            val := PySem.Value.ref 14 },
          { hash := PySem.PyData.keyHash P (PySem.Str.ofString "watched.\x69mport"),
            key := PySem.Value.str (PySem.Str.ofString "watched.\x69mport") 206, val := PySem.Value.ref 18 },
          { hash := PySem.PyData.keyHash P (PySem.Str.ofString "class._frozen_importlib.ModuleSpec"),
            key := PySem.Value.str (PySem.Str.ofString "class._frozen_importlib.ModuleSpec") 216,
            val := PySem.Value.ref 22 },
          { hash := PySem.PyData.keyHash P (PySem.Str.ofString "sys.modules.booked-epoch"),
            key := PySem.Value.str (PySem.Str.ofString "sys.modules.booked-epoch") 245, val := PySem.Value.int 3 0 },
          { hash := PySem.PyData.keyHash P (PySem.Str.ofString "\x69mport.later-laid._sre"),
            key := PySem.Value.str (PySem.Str.ofString "\x69mport.later-laid._sre") 270, val := PySem.Value.bool true },
          { hash := PySem.PyData.keyHash P (PySem.Str.ofString "watched.library"),
            key := PySem.Value.str (PySem.Str.ofString "watched.library") 272, val := PySem.Value.ref 27 },
          { hash := PySem.PyData.keyHash P (PySem.Str.ofString "watched.library-objects"),
            key := PySem.Value.str (PySem.Str.ofString "watched.library-objects") 0,
            val := PySem.Value.str (PySem.Str.ofString "\x0c") 0 },
          { hash := PySem.PyData.keyHash P (PySem.Str.ofString "watched.library-deep._sre"),
            key := PySem.Value.str (PySem.Str.ofString "watched.library-deep._sre") 273,
            val :=
              PySem.Value.str
                (PySem.Str.ofString "\x04\x00\x00\x0b\x04\x00\x00\x0b\x04\x00\x00\x03\x04\x00\x00\x0b\x08\x04dict\x02")
                0 }]
        9 }
noncomputable def oK3 (P : Params) : Obj :=
  { cls := PySem.Value.type "dict",
    data :=
      PySem.Data.dict
        #[{ hash := PySem.PyData.keyHash P (PySem.Str.ofString "__name__"),
            key := PySem.Value.str (PySem.Str.ofString "__name__") 165,
            val := PySem.Value.str (PySem.Str.ofString "law_tl0009_01") 608 },
          { hash := PySem.PyData.keyHash P (PySem.Str.ofString "__doc__"),
            key := PySem.Value.str (PySem.Str.ofString "__doc__") 166, val := PySem.Value.none },
          { hash := PySem.PyData.keyHash P (PySem.Str.ofString "__package__"),
            key := PySem.Value.str (PySem.Str.ofString "__package__") 167, val := PySem.Value.none },
          { hash := PySem.PyData.keyHash P (PySem.Str.ofString "__loader__"),
            key := PySem.Value.str (PySem.Str.ofString "__loader__") 168,
            val := PySem.Value.builtin "__main__.__loader__#opaque" },
          { hash := PySem.PyData.keyHash P (PySem.Str.ofString "__spec__"),
            key := PySem.Value.str (PySem.Str.ofString "__spec__") 169, val := PySem.Value.none },
          { hash := PySem.PyData.keyHash P (PySem.Str.ofString "__annotations__"),
            key := PySem.Value.str (PySem.Str.ofString "__annotations__") 170, val := PySem.Value.ref 6 },
          { hash := PySem.PyData.keyHash P (PySem.Str.ofString "__builtins__"),
            key := PySem.Value.str (PySem.Str.ofString "__builtins__") 171, val := PySem.Value.ref 4 },
          { hash := PySem.PyData.keyHash P (PySem.Str.ofString "__file__"),
            key := PySem.Value.str (PySem.Str.ofString "__file__") 173,
            val := PySem.Value.str (PySem.Str.ofString "/claim/cut.py") 172 },
          { hash := PySem.PyData.keyHash P (PySem.Str.ofString "__cached__"),
            key := PySem.Value.str (PySem.Str.ofString "__cached__") 174, val := PySem.Value.none },
          { hash := PySem.PyData.keyHash P (PySem.Str.ofString "_sre"),
            key := PySem.Value.str (PySem.Str.ofString "_sre") 275, val := PySem.Value.ref 12 },
          { hash := PySem.PyData.keyHash P (PySem.Str.ofString "and_"),
            key := PySem.Value.str (PySem.Str.ofString "and_") 291, val := PySem.Value.ref 38 },
          { hash := PySem.PyData.keyHash P (PySem.Str.ofString "floordiv"),
            key := PySem.Value.str (PySem.Str.ofString "floordiv") 299, val := PySem.Value.ref 45 },
          { hash := PySem.PyData.keyHash P (PySem.Str.ofString "mul"),
            key := PySem.Value.str (PySem.Str.ofString "mul") 307, val := PySem.Value.ref 52 },
          { hash := PySem.PyData.keyHash P (PySem.Str.ofString "rshift"),
            key := PySem.Value.str (PySem.Str.ofString "rshift") 315, val := PySem.Value.ref 59 },
          { hash := PySem.PyData.keyHash P (PySem.Str.ofString "concat"),
            key := PySem.Value.str (PySem.Str.ofString "concat") 324, val := PySem.Value.ref 66 },
          { hash := PySem.PyData.keyHash P (PySem.Str.ofString "countOf"),
            key := PySem.Value.str (PySem.Str.ofString "countOf") 334, val := PySem.Value.ref 73 },
          { hash := PySem.PyData.keyHash P (PySem.Str.ofString "_twin_re_1"),
            key := PySem.Value.str (PySem.Str.ofString "_twin_re_1") 352, val := PySem.Value.ref 78 },
          { hash := PySem.PyData.keyHash P (PySem.Str.ofString "_twin_re_2"),
            key := PySem.Value.str (PySem.Str.ofString "_twin_re_2") 394, val := PySem.Value.ref 83 },
          { hash := PySem.PyData.keyHash P (PySem.Str.ofString "CRLF"),
            key := PySem.Value.str (PySem.Str.ofString "CRLF") 396,
            val := PySem.Value.str (PySem.Str.ofString "\x0d\n") 395 },
          { hash := PySem.PyData.keyHash P (PySem.Str.ofString "quotedata"),
            key := PySem.Value.str (PySem.Str.ofString "quotedata") 403, val := PySem.Value.ref 90 },
          { hash := PySem.PyData.keyHash P (PySem.Str.ofString "ENDMARKER"),
            key := PySem.Value.str (PySem.Str.ofString "ENDMARKER") 407, val := PySem.Value.int 0 406 },
          { hash := PySem.PyData.keyHash P (PySem.Str.ofString "LPAR"),
            key := PySem.Value.str (PySem.Str.ofString "LPAR") 409, val := PySem.Value.int 7 408 },
          { hash := PySem.PyData.keyHash P (PySem.Str.ofString "RPAR"),
            key := PySem.Value.str (PySem.Str.ofString "RPAR") 411, val := PySem.Value.int 8 410 },
          { hash := PySem.PyData.keyHash P (PySem.Str.ofString "LSQB"),
            key := PySem.Value.str (PySem.Str.ofString "LSQB") 413, val := PySem.Value.int 9 412 },
          { hash := PySem.PyData.keyHash P (PySem.Str.ofString "RSQB"),
            key := PySem.Value.str (PySem.Str.ofString "RSQB") 415, val := PySem.Value.int 10 414 },
          { hash := PySem.PyData.keyHash P (PySem.Str.ofString "COLON"),
            key := PySem.Value.str (PySem.Str.ofString "COLON") 417, val := PySem.Value.int 11 416 },
          { hash := PySem.PyData.keyHash P (PySem.Str.ofString "COMMA"),
            key := PySem.Value.str (PySem.Str.ofString "COMMA") 419, val := PySem.Value.int 12 418 },
          { hash := PySem.PyData.keyHash P (PySem.Str.ofString "SEMI"),
            key := PySem.Value.str (PySem.Str.ofString "SEMI") 421, val := PySem.Value.int 13 420 },
          { hash := PySem.PyData.keyHash P (PySem.Str.ofString "PLUS"),
            key := PySem.Value.str (PySem.Str.ofString "PLUS") 423, val := PySem.Value.int 14 422 },
          { hash := PySem.PyData.keyHash P (PySem.Str.ofString "MINUS"),
            key := PySem.Value.str (PySem.Str.ofString "MINUS") 425, val := PySem.Value.int 15 424 },
          { hash := PySem.PyData.keyHash P (PySem.Str.ofString "STAR"),
            key := PySem.Value.str (PySem.Str.ofString "STAR") 427, val := PySem.Value.int 16 426 },
          { hash := PySem.PyData.keyHash P (PySem.Str.ofString "SLASH"),
            key := PySem.Value.str (PySem.Str.ofString "SLASH") 429, val := PySem.Value.int 17 428 },
          { hash := PySem.PyData.keyHash P (PySem.Str.ofString "VBAR"),
            key := PySem.Value.str (PySem.Str.ofString "VBAR") 431, val := PySem.Value.int 18 430 },
          { hash := PySem.PyData.keyHash P (PySem.Str.ofString "AMPER"),
            key := PySem.Value.str (PySem.Str.ofString "AMPER") 433, val := PySem.Value.int 19 432 },
          { hash := PySem.PyData.keyHash P (PySem.Str.ofString "LESS"),
            key := PySem.Value.str (PySem.Str.ofString "LESS") 435, val := PySem.Value.int 20 434 },
          { hash := PySem.PyData.keyHash P (PySem.Str.ofString "GREATER"),
            key := PySem.Value.str (PySem.Str.ofString "GREATER") 437, val := PySem.Value.int 21 436 },
          { hash := PySem.PyData.keyHash P (PySem.Str.ofString "EQUAL"),
            key := PySem.Value.str (PySem.Str.ofString "EQUAL") 439, val := PySem.Value.int 22 438 },
          { hash := PySem.PyData.keyHash P (PySem.Str.ofString "DOT"),
            key := PySem.Value.str (PySem.Str.ofString "DOT") 441, val := PySem.Value.int 23 440 },
          { hash := PySem.PyData.keyHash P (PySem.Str.ofString "PERCENT"),
            key := PySem.Value.str (PySem.Str.ofString "PERCENT") 443, val := PySem.Value.int 24 442 },
          { hash := PySem.PyData.keyHash P (PySem.Str.ofString "LBRACE"),
            key := PySem.Value.str (PySem.Str.ofString "LBRACE") 445, val := PySem.Value.int 25 444 },
          { hash := PySem.PyData.keyHash P (PySem.Str.ofString "RBRACE"),
            key := PySem.Value.str (PySem.Str.ofString "RBRACE") 447, val := PySem.Value.int 26 446 },
          { hash := PySem.PyData.keyHash P (PySem.Str.ofString "EQEQUAL"),
            key := PySem.Value.str (PySem.Str.ofString "EQEQUAL") 449, val := PySem.Value.int 27 448 },
          { hash := PySem.PyData.keyHash P (PySem.Str.ofString "NOTEQUAL"),
            key := PySem.Value.str (PySem.Str.ofString "NOTEQUAL") 451, val := PySem.Value.int 28 450 },
          { hash := PySem.PyData.keyHash P (PySem.Str.ofString "LESSEQUAL"),
            key := PySem.Value.str (PySem.Str.ofString "LESSEQUAL") 453, val := PySem.Value.int 29 452 },
          { hash := PySem.PyData.keyHash P (PySem.Str.ofString "GREATEREQUAL"),
            key := PySem.Value.str (PySem.Str.ofString "GREATEREQUAL") 455, val := PySem.Value.int 30 454 },
          { hash := PySem.PyData.keyHash P (PySem.Str.ofString "TILDE"),
            key := PySem.Value.str (PySem.Str.ofString "TILDE") 457, val := PySem.Value.int 31 456 },
          { hash := PySem.PyData.keyHash P (PySem.Str.ofString "CIRCUMFLEX"),
            key := PySem.Value.str (PySem.Str.ofString "CIRCUMFLEX") 459, val := PySem.Value.int 32 458 },
          { hash := PySem.PyData.keyHash P (PySem.Str.ofString "LEFTSHIFT"),
            key := PySem.Value.str (PySem.Str.ofString "LEFTSHIFT") 461, val := PySem.Value.int 33 460 },
          { hash := PySem.PyData.keyHash P (PySem.Str.ofString "RIGHTSHIFT"),
            key := PySem.Value.str (PySem.Str.ofString "RIGHTSHIFT") 463, val := PySem.Value.int 34 462 },
          { hash := PySem.PyData.keyHash P (PySem.Str.ofString "DOUBLESTAR"),
            key := PySem.Value.str (PySem.Str.ofString "DOUBLESTAR") 465, val := PySem.Value.int 35 464 },
          { hash := PySem.PyData.keyHash P (PySem.Str.ofString "PLUSEQUAL"),
            key := PySem.Value.str (PySem.Str.ofString "PLUSEQUAL") 467, val := PySem.Value.int 36 466 },
          { hash := PySem.PyData.keyHash P (PySem.Str.ofString "MINEQUAL"),
            key := PySem.Value.str (PySem.Str.ofString "MINEQUAL") 469, val := PySem.Value.int 37 468 },
          { hash := PySem.PyData.keyHash P (PySem.Str.ofString "STAREQUAL"),
            key := PySem.Value.str (PySem.Str.ofString "STAREQUAL") 471, val := PySem.Value.int 38 470 },
          { hash := PySem.PyData.keyHash P (PySem.Str.ofString "SLASHEQUAL"),
            key := PySem.Value.str (PySem.Str.ofString "SLASHEQUAL") 473, val := PySem.Value.int 39 472 },
          { hash := PySem.PyData.keyHash P (PySem.Str.ofString "PERCENTEQUAL"),
            key := PySem.Value.str (PySem.Str.ofString "PERCENTEQUAL") 475, val := PySem.Value.int 40 474 },
          { hash := PySem.PyData.keyHash P (PySem.Str.ofString "AMPEREQUAL"),
            key := PySem.Value.str (PySem.Str.ofString "AMPEREQUAL") 477, val := PySem.Value.int 41 476 },
          { hash := PySem.PyData.keyHash P (PySem.Str.ofString "VBAREQUAL"),
            key := PySem.Value.str (PySem.Str.ofString "VBAREQUAL") 479, val := PySem.Value.int 42 478 },
          { hash := PySem.PyData.keyHash P (PySem.Str.ofString "CIRCUMFLEXEQUAL"),
            key := PySem.Value.str (PySem.Str.ofString "CIRCUMFLEXEQUAL") 481, val := PySem.Value.int 43 480 },
          { hash := PySem.PyData.keyHash P (PySem.Str.ofString "LEFTSHIFTEQUAL"),
            key := PySem.Value.str (PySem.Str.ofString "LEFTSHIFTEQUAL") 483, val := PySem.Value.int 44 482 },
          { hash := PySem.PyData.keyHash P (PySem.Str.ofString "RIGHTSHIFTEQUAL"),
            key := PySem.Value.str (PySem.Str.ofString "RIGHTSHIFTEQUAL") 485, val := PySem.Value.int 45 484 },
          { hash := PySem.PyData.keyHash P (PySem.Str.ofString "DOUBLESTAREQUAL"),
            key := PySem.Value.str (PySem.Str.ofString "DOUBLESTAREQUAL") 487, val := PySem.Value.int 46 486 },
          { hash := PySem.PyData.keyHash P (PySem.Str.ofString "DOUBLESLASH"),
            key := PySem.Value.str (PySem.Str.ofString "DOUBLESLASH") 489, val := PySem.Value.int 47 488 },
          { hash := PySem.PyData.keyHash P (PySem.Str.ofString "DOUBLESLASHEQUAL"),
            key := PySem.Value.str (PySem.Str.ofString "DOUBLESLASHEQUAL") 491, val := PySem.Value.int 48 490 },
          { hash := PySem.PyData.keyHash P (PySem.Str.ofString "AT"),
            key := PySem.Value.str (PySem.Str.ofString "AT") 493, val := PySem.Value.int 49 492 },
          { hash := PySem.PyData.keyHash P (PySem.Str.ofString "ATEQUAL"),
            key := PySem.Value.str (PySem.Str.ofString "ATEQUAL") 495, val := PySem.Value.int 50 494 },
          { hash := PySem.PyData.keyHash P (PySem.Str.ofString "RARROW"),
            key := PySem.Value.str (PySem.Str.ofString "RARROW") 497, val := PySem.Value.int 51 496 },
          { hash := PySem.PyData.keyHash P (PySem.Str.ofString "ELLIPSIS"),
            key := PySem.Value.str (PySem.Str.ofString "ELLIPSIS") 499, val := PySem.Value.int 52 498 },
          { hash := PySem.PyData.keyHash P (PySem.Str.ofString "COLONEQUAL"),
            key := PySem.Value.str (PySem.Str.ofString "COLONEQUAL") 501, val := PySem.Value.int 53 500 },
          { hash := PySem.PyData.keyHash P (PySem.Str.ofString "EXCLAMATION"),
            key := PySem.Value.str (PySem.Str.ofString "EXCLAMATION") 503, val := PySem.Value.int 54 502 },
          { hash := PySem.PyData.keyHash P (PySem.Str.ofString "EXACT_TOKEN_TYPES"),
            key := PySem.Value.str (PySem.Str.ofString "EXACT_TOKEN_TYPES") 600, val := PySem.Value.ref 91 },
          { hash := PySem.PyData.keyHash P (PySem.Str.ofString "ISEOF"),
            key := PySem.Value.str (PySem.Str.ofString "ISEOF") 607, val := PySem.Value.ref 100 },
          { hash := PySem.PyData.keyHash P (PySem.Str.ofString "_law_cells"),
            key := PySem.Value.str (PySem.Str.ofString "_law_cells") 618, val := PySem.Value.ref 107 },
          { hash := PySem.PyData.keyHash P (PySem.Str.ofString "_law_word"),
            key := PySem.Value.str (PySem.Str.ofString "_law_word") 630, val := PySem.Value.ref 114 },
          { hash := PySem.PyData.keyHash P (PySem.Str.ofString "_law_home"),
            key := PySem.Value.str (PySem.Str.ofString "_law_home") 641, val := PySem.Value.ref 121 },
          { hash := PySem.PyData.keyHash P (PySem.Str.ofString "_law_typed"),
            key := PySem.Value.str (PySem.Str.ofString "_law_typed") 654, val := PySem.Value.ref 128 },
          { hash := PySem.PyData.keyHash P (PySem.Str.ofString "_law_row"),
            key := PySem.Value.str (PySem.Str.ofString "_law_row") 665, val := PySem.Value.ref 135 },
          { hash := PySem.PyData.keyHash P (PySem.Str.ofString "_law_due"),
            key := PySem.Value.str (PySem.Str.ofString "_law_due") 677, val := PySem.Value.ref 142 },
          { hash := PySem.PyData.keyHash P (PySem.Str.ofString "_law_kinds"),
            key := PySem.Value.str (PySem.Str.ofString "_law_kinds") 686, val := PySem.Value.ref 149 },
          { hash := PySem.PyData.keyHash P (PySem.Str.ofString "_law_next"),
            key := PySem.Value.str (PySem.Str.ofString "_law_next") 696, val := PySem.Value.ref 156 },
          { hash := PySem.PyData.keyHash P (PySem.Str.ofString "_law_round"),
            key := PySem.Value.str (PySem.Str.ofString "_law_round") 717, val := PySem.Value.ref 163 },
          { hash := PySem.PyData.keyHash P (PySem.Str.ofString "law"),
            key := PySem.Value.str (PySem.Str.ofString "law") 723, val := PySem.Value.ref 168 }]
        81 }
noncomputable def oK32 : Obj :=
  { cls := PySem.Value.type "tuple", data := PySem.Data.seq #[] }
noncomputable def oK34 : Obj :=
  { cls := PySem.Value.type "tuple",
    data :=
      PySem.Data.seq #[PySem.Value.str (PySem.Str.ofString "a") 287, PySem.Value.str (PySem.Str.ofString "b") 288] }
noncomputable def oK35 : Obj :=
  { cls := PySem.Value.type "tuple", data := PySem.Data.seq #[] }
noncomputable def oK37 : Obj :=
  { cls := PySem.Value.type "code",
    data :=
      PySem.Data.fields
        #[PySem.Value.str (PySem.Str.ofString "and_") 284, PySem.Value.str (PySem.Str.ofString "and_") 285,
          PySem.Value.str (PySem.Str.ofString "/claim/cut.py") 286, PySem.Value.int 3 0, PySem.Value.int 2 0,
          PySem.Value.int 0 0, PySem.Value.int 0 0, PySem.Value.int 3 0, PySem.Value.ref 32, PySem.Value.bool true,
          PySem.Value.int 276 0, PySem.Value.ref 33, PySem.Value.none, PySem.Value.ref 34, PySem.Value.ref 35,
          PySem.Value.ref 36, PySem.Value.int 289 0, PySem.Value.int 3 0,
          PySem.Value.str (PySem.Str.ofString "/claim/cut.py") 290] }
noncomputable def oK38 : Obj := fnK 2 (Str.ofString "cpy313.operator") 282 37
noncomputable def oK39 : Obj :=
  { cls := PySem.Value.type "tuple", data := PySem.Data.seq #[] }
noncomputable def oK41 : Obj :=
  { cls := PySem.Value.type "tuple",
    data :=
      PySem.Data.seq #[PySem.Value.str (PySem.Str.ofString "a") 295, PySem.Value.str (PySem.Str.ofString "b") 296] }
noncomputable def oK42 : Obj :=
  { cls := PySem.Value.type "tuple", data := PySem.Data.seq #[] }
noncomputable def oK44 : Obj :=
  { cls := PySem.Value.type "code",
    data :=
      PySem.Data.fields
        #[PySem.Value.str (PySem.Str.ofString "floordiv") 292, PySem.Value.str (PySem.Str.ofString "floordiv") 293,
          PySem.Value.str (PySem.Str.ofString "/claim/cut.py") 294, PySem.Value.int 5 0, PySem.Value.int 2 0,
          PySem.Value.int 0 0, PySem.Value.int 0 0, PySem.Value.int 3 0, PySem.Value.ref 39, PySem.Value.bool true,
          PySem.Value.int 276 0, PySem.Value.ref 40, PySem.Value.none, PySem.Value.ref 41, PySem.Value.ref 42,
          PySem.Value.ref 43, PySem.Value.int 297 0, PySem.Value.int 5 0,
          PySem.Value.str (PySem.Str.ofString "/claim/cut.py") 298] }
noncomputable def oK45 : Obj := fnK 3 (Str.ofString "cpy313.operator") 282 44
noncomputable def oK46 : Obj :=
  { cls := PySem.Value.type "tuple", data := PySem.Data.seq #[] }
noncomputable def oK48 : Obj :=
  { cls := PySem.Value.type "tuple",
    data :=
      PySem.Data.seq #[PySem.Value.str (PySem.Str.ofString "a") 303, PySem.Value.str (PySem.Str.ofString "b") 304] }
noncomputable def oK49 : Obj :=
  { cls := PySem.Value.type "tuple", data := PySem.Data.seq #[] }
noncomputable def oK51 : Obj :=
  { cls := PySem.Value.type "code",
    data :=
      PySem.Data.fields
        #[PySem.Value.str (PySem.Str.ofString "mul") 300, PySem.Value.str (PySem.Str.ofString "mul") 301,
          PySem.Value.str (PySem.Str.ofString "/claim/cut.py") 302, PySem.Value.int 7 0, PySem.Value.int 2 0,
          PySem.Value.int 0 0, PySem.Value.int 0 0, PySem.Value.int 3 0, PySem.Value.ref 46, PySem.Value.bool true,
          PySem.Value.int 276 0, PySem.Value.ref 47, PySem.Value.none, PySem.Value.ref 48, PySem.Value.ref 49,
          PySem.Value.ref 50, PySem.Value.int 305 0, PySem.Value.int 7 0,
          PySem.Value.str (PySem.Str.ofString "/claim/cut.py") 306] }
noncomputable def oK52 : Obj := fnK 4 (Str.ofString "cpy313.operator") 282 51
noncomputable def oK53 : Obj :=
  { cls := PySem.Value.type "tuple", data := PySem.Data.seq #[] }
noncomputable def oK55 : Obj :=
  { cls := PySem.Value.type "tuple",
    data :=
      PySem.Data.seq #[PySem.Value.str (PySem.Str.ofString "a") 311, PySem.Value.str (PySem.Str.ofString "b") 312] }
noncomputable def oK56 : Obj :=
  { cls := PySem.Value.type "tuple", data := PySem.Data.seq #[] }
noncomputable def oK58 : Obj :=
  { cls := PySem.Value.type "code",
    data :=
      PySem.Data.fields
        #[PySem.Value.str (PySem.Str.ofString "rshift") 308, PySem.Value.str (PySem.Str.ofString "rshift") 309,
          PySem.Value.str (PySem.Str.ofString "/claim/cut.py") 310, PySem.Value.int 9 0, PySem.Value.int 2 0,
          PySem.Value.int 0 0, PySem.Value.int 0 0, PySem.Value.int 3 0, PySem.Value.ref 53, PySem.Value.bool true,
          PySem.Value.int 276 0, PySem.Value.ref 54, PySem.Value.none, PySem.Value.ref 55, PySem.Value.ref 56,
          PySem.Value.ref 57, PySem.Value.int 313 0, PySem.Value.int 9 0,
          PySem.Value.str (PySem.Str.ofString "/claim/cut.py") 314] }
noncomputable def oK59 : Obj := fnK 5 (Str.ofString "cpy313.operator") 282 58
noncomputable def oK60 : Obj :=
  { cls := PySem.Value.type "tuple", data := PySem.Data.seq #[] }
noncomputable def oK62 : Obj :=
  { cls := PySem.Value.type "tuple",
    data :=
      PySem.Data.seq
        #[PySem.Value.str (PySem.Str.ofString "a") 319, PySem.Value.str (PySem.Str.ofString "b") 320,
          PySem.Value.str (PySem.Str.ofString "msg") 321] }
noncomputable def oK63 : Obj :=
  { cls := PySem.Value.type "tuple", data := PySem.Data.seq #[] }
noncomputable def oK65 : Obj :=
  { cls := PySem.Value.type "code",
    data :=
      PySem.Data.fields
        #[PySem.Value.str (PySem.Str.ofString "concat") 316, PySem.Value.str (PySem.Str.ofString "concat") 317,
          PySem.Value.str (PySem.Str.ofString "/claim/cut.py") 318, PySem.Value.int 11 0, PySem.Value.int 2 0,
          PySem.Value.int 0 0, PySem.Value.int 0 0, PySem.Value.int 3 0, PySem.Value.ref 60, PySem.Value.bool true,
          PySem.Value.int 276 0, PySem.Value.ref 61, PySem.Value.none, PySem.Value.ref 62, PySem.Value.ref 63,
          PySem.Value.ref 64, PySem.Value.int 322 0, PySem.Value.int 11 0,
          PySem.Value.str (PySem.Str.ofString "/claim/cut.py") 323] }
noncomputable def oK66 : Obj := fnK 6 (Str.ofString "cpy313.operator") 282 65
noncomputable def oK67 : Obj :=
  { cls := PySem.Value.type "tuple", data := PySem.Data.seq #[] }
noncomputable def oK69 : Obj :=
  { cls := PySem.Value.type "tuple",
    data :=
      PySem.Data.seq
        #[PySem.Value.str (PySem.Str.ofString "a") 328, PySem.Value.str (PySem.Str.ofString "b") 329,
          PySem.Value.str (PySem.Str.ofString "count") 330, PySem.Value.str (PySem.Str.ofString "i") 331] }
noncomputable def oK70 : Obj :=
  { cls := PySem.Value.type "tuple", data := PySem.Data.seq #[] }
noncomputable def oK72 : Obj :=
  { cls := PySem.Value.type "code",
    data :=
      PySem.Data.fields
        #[PySem.Value.str (PySem.Str.ofString "countOf") 325, PySem.Value.str (PySem.Str.ofString "countOf") 326,
          PySem.Value.str (PySem.Str.ofString "/claim/cut.py") 327, PySem.Value.int 16 0, PySem.Value.int 2 0,
          PySem.Value.int 0 0, PySem.Value.int 0 0, PySem.Value.int 3 0, PySem.Value.ref 67, PySem.Value.bool true,
          PySem.Value.int 276 0, PySem.Value.ref 68, PySem.Value.none, PySem.Value.ref 69, PySem.Value.ref 70,
          PySem.Value.ref 71, PySem.Value.int 332 0, PySem.Value.int 16 0,
          PySem.Value.str (PySem.Str.ofString "/claim/cut.py") 333] }
noncomputable def oK73 : Obj := fnK 7 (Str.ofString "cpy313.operator") 282 72
noncomputable def oK77 : Obj :=
  { cls := PySem.Value.type "tuple",
    data :=
      PySem.Data.seq
        #[PySem.Value.int 14 0, PySem.Value.int 4 0, PySem.Value.int 0 0, PySem.Value.int 1 0, PySem.Value.int 1 0,
          PySem.Value.int 6 0, PySem.Value.int 1 0, PySem.Value.int 16 0, PySem.Value.int 46 0, PySem.Value.int 1 0] }
noncomputable def oK78 : Obj :=
  { cls := PySem.Value.type "re.Pattern",
    data :=
      PySem.Data.fields
        #[PySem.Value.str (PySem.Str.ofString "(?m)^\\.") 338, PySem.Value.int 40 351, PySem.Value.int 0 0,
          PySem.Value.none, PySem.Value.none, PySem.Value.ref 77, PySem.Value.int 0 0] }
noncomputable def oK82 : Obj :=
  { cls := PySem.Value.type "tuple",
    data :=
      PySem.Data.seq
        #[PySem.Value.int 14 0, PySem.Value.int 9 0, PySem.Value.int 4 0, PySem.Value.int 1 0, PySem.Value.int 2 0,
          PySem.Value.int 16 0, PySem.Value.int 10 0, PySem.Value.int 16 0, PySem.Value.int 13 0, PySem.Value.int 0 0,
          PySem.Value.int 7 0, PySem.Value.int 7 0, PySem.Value.int 16 0, PySem.Value.int 13 0, PySem.Value.int 16 0,
          PySem.Value.int 10 0, PySem.Value.int 15 0, PySem.Value.int 18 0, PySem.Value.int 5 0, PySem.Value.int 16 0,
          PySem.Value.int 10 0, PySem.Value.int 15 0, PySem.Value.int 13 0, PySem.Value.int 11 0, PySem.Value.int 16 0,
          PySem.Value.int 13 0, PySem.Value.int 5 0, PySem.Value.int 5 0, PySem.Value.int 0 0, PySem.Value.int 16 0,
          PySem.Value.int 10 0, PySem.Value.int 1 0, PySem.Value.int 15 0, PySem.Value.int 2 0, PySem.Value.int 0 0,
          PySem.Value.int 1 0] }
noncomputable def oK83 : Obj :=
  { cls := PySem.Value.type "re.Pattern",
    data :=
      PySem.Data.fields
        #[PySem.Value.str (PySem.Str.ofString "(?:\\r\\n|\\n|\\r(?!\\n))") 354, PySem.Value.int 32 393,
          PySem.Value.int 0 0, PySem.Value.none, PySem.Value.none, PySem.Value.ref 82, PySem.Value.int 0 0] }
noncomputable def oK84 : Obj :=
  { cls := PySem.Value.type "tuple", data := PySem.Data.seq #[] }
noncomputable def oK86 : Obj :=
  { cls := PySem.Value.type "tuple", data := PySem.Data.seq #[PySem.Value.str (PySem.Str.ofString "data") 400] }
noncomputable def oK87 : Obj :=
  { cls := PySem.Value.type "tuple", data := PySem.Data.seq #[] }
noncomputable def oK89 : Obj :=
  { cls := PySem.Value.type "code",
    data :=
      PySem.Data.fields
        #[PySem.Value.str (PySem.Str.ofString "quotedata") 397, PySem.Value.str (PySem.Str.ofString "quotedata") 398,
          PySem.Value.str (PySem.Str.ofString "/claim/cut.py") 399, PySem.Value.int 26 0, PySem.Value.int 1 0,
          PySem.Value.int 0 0, PySem.Value.int 0 0, PySem.Value.int 3 0, PySem.Value.ref 84, PySem.Value.bool true,
          PySem.Value.int 276 0, PySem.Value.ref 85, PySem.Value.none, PySem.Value.ref 86, PySem.Value.ref 87,
          PySem.Value.ref 88, PySem.Value.int 401 0, PySem.Value.int 26 0,
          PySem.Value.str (PySem.Str.ofString "/claim/cut.py") 402] }
noncomputable def oK90 : Obj := fnK 12 (Str.ofString "cpy313.smtplib") 335 89
noncomputable def oK91 (P : Params) : Obj :=
  { cls := PySem.Value.type "dict",
    data :=
      PySem.Data.dict
        #[{ hash := PySem.PyData.keyHash P (PySem.Str.ofString "!"),
            key := PySem.Value.str (PySem.Str.ofString "!") 504, val := PySem.Value.int 54 502 },
          { hash := PySem.PyData.keyHash P (PySem.Str.ofString "!="),
            key := PySem.Value.str (PySem.Str.ofString "!=") 506, val := PySem.Value.int 28 450 },
          { hash := PySem.PyData.keyHash P (PySem.Str.ofString "%"),
            key := PySem.Value.str (PySem.Str.ofString "%") 508, val := PySem.Value.int 24 442 },
          { hash := PySem.PyData.keyHash P (PySem.Str.ofString "%="),
            key := PySem.Value.str (PySem.Str.ofString "%=") 510, val := PySem.Value.int 40 474 },
          { hash := PySem.PyData.keyHash P (PySem.Str.ofString "&"),
            key := PySem.Value.str (PySem.Str.ofString "&") 512, val := PySem.Value.int 19 432 },
          { hash := PySem.PyData.keyHash P (PySem.Str.ofString "&="),
            key := PySem.Value.str (PySem.Str.ofString "&=") 514, val := PySem.Value.int 41 476 },
          { hash := PySem.PyData.keyHash P (PySem.Str.ofString "("),
            key := PySem.Value.str (PySem.Str.ofString "(") 516, val := PySem.Value.int 7 408 },
          { hash := PySem.PyData.keyHash P (PySem.Str.ofString ")"),
            key := PySem.Value.str (PySem.Str.ofString ")") 518, val := PySem.Value.int 8 410 },
          { hash := PySem.PyData.keyHash P (PySem.Str.ofString "*"),
            key := PySem.Value.str (PySem.Str.ofString "*") 520, val := PySem.Value.int 16 426 },
          { hash := PySem.PyData.keyHash P (PySem.Str.ofString "**"),
            key := PySem.Value.str (PySem.Str.ofString "**") 522, val := PySem.Value.int 35 464 },
          { hash := PySem.PyData.keyHash P (PySem.Str.ofString "**="),
            key := PySem.Value.str (PySem.Str.ofString "**=") 524, val := PySem.Value.int 46 486 },
          { hash := PySem.PyData.keyHash P (PySem.Str.ofString "*="),
            key := PySem.Value.str (PySem.Str.ofString "*=") 526, val := PySem.Value.int 38 470 },
          { hash := PySem.PyData.keyHash P (PySem.Str.ofString "+"),
            key := PySem.Value.str (PySem.Str.ofString "+") 528, val := PySem.Value.int 14 422 },
          { hash := PySem.PyData.keyHash P (PySem.Str.ofString "+="),
            key := PySem.Value.str (PySem.Str.ofString "+=") 530, val := PySem.Value.int 36 466 },
          { hash := PySem.PyData.keyHash P (PySem.Str.ofString ","),
            key := PySem.Value.str (PySem.Str.ofString ",") 532, val := PySem.Value.int 12 418 },
          { hash := PySem.PyData.keyHash P (PySem.Str.ofString "-"),
            key := PySem.Value.str (PySem.Str.ofString "-") 534, val := PySem.Value.int 15 424 },
          { hash := PySem.PyData.keyHash P (PySem.Str.ofString "-="),
            key := PySem.Value.str (PySem.Str.ofString "-=") 536, val := PySem.Value.int 37 468 },
          { hash := PySem.PyData.keyHash P (PySem.Str.ofString "->"),
            key := PySem.Value.str (PySem.Str.ofString "->") 538, val := PySem.Value.int 51 496 },
          { hash := PySem.PyData.keyHash P (PySem.Str.ofString "."),
            key := PySem.Value.str (PySem.Str.ofString ".") 540, val := PySem.Value.int 23 440 },
          { hash := PySem.PyData.keyHash P (PySem.Str.ofString "..."),
            key := PySem.Value.str (PySem.Str.ofString "...") 542, val := PySem.Value.int 52 498 },
          { hash := PySem.PyData.keyHash P (PySem.Str.ofString "/"),
            key := PySem.Value.str (PySem.Str.ofString "/") 544, val := PySem.Value.int 17 428 },
          { hash := PySem.PyData.keyHash P (PySem.Str.ofString "//"),
            key := PySem.Value.str (PySem.Str.ofString "//") 546, val := PySem.Value.int 47 488 },
          { hash := PySem.PyData.keyHash P (PySem.Str.ofString "//="),
            key := PySem.Value.str (PySem.Str.ofString "//=") 548, val := PySem.Value.int 48 490 },
          { hash := PySem.PyData.keyHash P (PySem.Str.ofString "/="),
            key := PySem.Value.str (PySem.Str.ofString "/=") 550, val := PySem.Value.int 39 472 },
          { hash := PySem.PyData.keyHash P (PySem.Str.ofString ":"),
            key := PySem.Value.str (PySem.Str.ofString ":") 552, val := PySem.Value.int 11 416 },
          { hash := PySem.PyData.keyHash P (PySem.Str.ofString ":="),
            key := PySem.Value.str (PySem.Str.ofString ":=") 554, val := PySem.Value.int 53 500 },
          { hash := PySem.PyData.keyHash P (PySem.Str.ofString ";"),
            key := PySem.Value.str (PySem.Str.ofString ";") 556, val := PySem.Value.int 13 420 },
          { hash := PySem.PyData.keyHash P (PySem.Str.ofString "<"),
            key := PySem.Value.str (PySem.Str.ofString "<") 558, val := PySem.Value.int 20 434 },
          { hash := PySem.PyData.keyHash P (PySem.Str.ofString "<<"),
            key := PySem.Value.str (PySem.Str.ofString "<<") 560, val := PySem.Value.int 33 460 },
          { hash := PySem.PyData.keyHash P (PySem.Str.ofString "<<="),
            key := PySem.Value.str (PySem.Str.ofString "<<=") 562, val := PySem.Value.int 44 482 },
          { hash := PySem.PyData.keyHash P (PySem.Str.ofString "<="),
            key := PySem.Value.str (PySem.Str.ofString "<=") 564, val := PySem.Value.int 29 452 },
          { hash := PySem.PyData.keyHash P (PySem.Str.ofString "="),
            key := PySem.Value.str (PySem.Str.ofString "=") 566, val := PySem.Value.int 22 438 },
          { hash := PySem.PyData.keyHash P (PySem.Str.ofString "=="),
            key := PySem.Value.str (PySem.Str.ofString "==") 568, val := PySem.Value.int 27 448 },
          { hash := PySem.PyData.keyHash P (PySem.Str.ofString ">"),
            key := PySem.Value.str (PySem.Str.ofString ">") 570, val := PySem.Value.int 21 436 },
          { hash := PySem.PyData.keyHash P (PySem.Str.ofString ">="),
            key := PySem.Value.str (PySem.Str.ofString ">=") 572, val := PySem.Value.int 30 454 },
          { hash := PySem.PyData.keyHash P (PySem.Str.ofString ">>"),
            key := PySem.Value.str (PySem.Str.ofString ">>") 573, val := PySem.Value.int 34 462 },
          { hash := PySem.PyData.keyHash P (PySem.Str.ofString ">>="),
            key := PySem.Value.str (PySem.Str.ofString ">>=") 574, val := PySem.Value.int 45 484 },
          { hash := PySem.PyData.keyHash P (PySem.Str.ofString "@"),
            key := PySem.Value.str (PySem.Str.ofString "@") 575, val := PySem.Value.int 49 492 },
          { hash := PySem.PyData.keyHash P (PySem.Str.ofString "@="),
            key := PySem.Value.str (PySem.Str.ofString "@=") 576, val := PySem.Value.int 50 494 },
          { hash := PySem.PyData.keyHash P (PySem.Str.ofString "["),
            key := PySem.Value.str (PySem.Str.ofString "[") 577, val := PySem.Value.int 9 412 },
          { hash := PySem.PyData.keyHash P (PySem.Str.ofString "]"),
            key := PySem.Value.str (PySem.Str.ofString "]") 578, val := PySem.Value.int 10 414 },
          { hash := PySem.PyData.keyHash P (PySem.Str.ofString "^"),
            key := PySem.Value.str (PySem.Str.ofString "^") 579, val := PySem.Value.int 32 458 },
          { hash := PySem.PyData.keyHash P (PySem.Str.ofString "^="),
            key := PySem.Value.str (PySem.Str.ofString "^=") 580, val := PySem.Value.int 43 480 },
          { hash := PySem.PyData.keyHash P (PySem.Str.ofString "{"),
            key := PySem.Value.str (PySem.Str.ofString "{") 581, val := PySem.Value.int 25 444 },
          { hash := PySem.PyData.keyHash P (PySem.Str.ofString "|"),
            key := PySem.Value.str (PySem.Str.ofString "|") 582, val := PySem.Value.int 18 430 },
          { hash := PySem.PyData.keyHash P (PySem.Str.ofString "|="),
            key := PySem.Value.str (PySem.Str.ofString "|=") 583, val := PySem.Value.int 42 478 },
          { hash := PySem.PyData.keyHash P (PySem.Str.ofString "}"),
            key := PySem.Value.str (PySem.Str.ofString "}") 584, val := PySem.Value.int 26 446 },
          { hash := PySem.PyData.keyHash P (PySem.Str.ofString "~"),
            key := PySem.Value.str (PySem.Str.ofString "~") 585, val := PySem.Value.int 31 456 }]
        48 }
noncomputable def oK94 : Obj :=
  { cls := PySem.Value.type "tuple", data := PySem.Data.seq #[] }
noncomputable def oK96 : Obj :=
  { cls := PySem.Value.type "tuple", data := PySem.Data.seq #[PySem.Value.str (PySem.Str.ofString "x") 604] }
noncomputable def oK97 : Obj :=
  { cls := PySem.Value.type "tuple", data := PySem.Data.seq #[] }
noncomputable def oK99 : Obj :=
  { cls := PySem.Value.type "code",
    data :=
      PySem.Data.fields
        #[PySem.Value.str (PySem.Str.ofString "ISEOF") 601, PySem.Value.str (PySem.Str.ofString "ISEOF") 602,
          PySem.Value.str (PySem.Str.ofString "/claim/cut.py") 603, PySem.Value.int 79 0, PySem.Value.int 1 0,
          PySem.Value.int 0 0, PySem.Value.int 0 0, PySem.Value.int 3 0, PySem.Value.ref 94, PySem.Value.bool true,
          PySem.Value.int 276 0, PySem.Value.ref 95, PySem.Value.none, PySem.Value.ref 96, PySem.Value.ref 97,
          PySem.Value.ref 98, PySem.Value.int 605 0, PySem.Value.int 79 0,
          PySem.Value.str (PySem.Str.ofString "/claim/cut.py") 606] }
noncomputable def oK100 : Obj := fnK 64 (Str.ofString "cpy313.token") 404 99
noncomputable def oK101 : Obj :=
  { cls := PySem.Value.type "tuple", data := PySem.Data.seq #[] }
noncomputable def oK103 : Obj :=
  { cls := PySem.Value.type "tuple",
    data :=
      PySem.Data.seq
        #[PySem.Value.str (PySem.Str.ofString "script") 613, PySem.Value.str (PySem.Str.ofString "cells") 614,
          PySem.Value.str (PySem.Str.ofString "k") 615] }
noncomputable def oK104 : Obj :=
  { cls := PySem.Value.type "tuple", data := PySem.Data.seq #[] }
noncomputable def oK106 : Obj :=
  { cls := PySem.Value.type "code",
    data :=
      PySem.Data.fields
        #[PySem.Value.str (PySem.Str.ofString "_law_cells") 610, PySem.Value.str (PySem.Str.ofString "_law_cells") 611,
          PySem.Value.str (PySem.Str.ofString "/claim/cut.py") 612, PySem.Value.int 82 0, PySem.Value.int 1 0,
          PySem.Value.int 0 0, PySem.Value.int 0 0, PySem.Value.int 3 0, PySem.Value.ref 101, PySem.Value.bool true,
          PySem.Value.int 276 0, PySem.Value.ref 102, PySem.Value.none, PySem.Value.ref 103, PySem.Value.ref 104,
          PySem.Value.ref 105, PySem.Value.int 616 0, PySem.Value.int 82 0,
          PySem.Value.str (PySem.Str.ofString "/claim/cut.py") 617] }
noncomputable def oK107 : Obj := fnK 66 (Str.ofString "law_tl0009_01") 608 106
noncomputable def oK108 : Obj :=
  { cls := PySem.Value.type "tuple", data := PySem.Data.seq #[] }
noncomputable def oK110 : Obj :=
  { cls := PySem.Value.type "tuple",
    data :=
      PySem.Data.seq
        #[PySem.Value.str (PySem.Str.ofString "cell") 622, PySem.Value.str (PySem.Str.ofString "size") 623,
          PySem.Value.str (PySem.Str.ofString "factor") 624, PySem.Value.str (PySem.Str.ofString "word") 625,
          PySem.Value.str (PySem.Str.ofString "weight") 626, PySem.Value.str (PySem.Str.ofString "place") 627] }
noncomputable def oK111 : Obj :=
  { cls := PySem.Value.type "tuple", data := PySem.Data.seq #[] }
noncomputable def oK113 : Obj :=
  { cls := PySem.Value.type "code",
    data :=
      PySem.Data.fields
        #[PySem.Value.str (PySem.Str.ofString "_law_word") 619, PySem.Value.str (PySem.Str.ofString "_law_word") 620,
          PySem.Value.str (PySem.Str.ofString "/claim/cut.py") 621, PySem.Value.int 87 0, PySem.Value.int 3 0,
          PySem.Value.int 0 0, PySem.Value.int 0 0, PySem.Value.int 3 0, PySem.Value.ref 108, PySem.Value.bool true,
          PySem.Value.int 276 0, PySem.Value.ref 109, PySem.Value.none, PySem.Value.ref 110, PySem.Value.ref 111,
          PySem.Value.ref 112, PySem.Value.int 628 0, PySem.Value.int 87 0,
          PySem.Value.str (PySem.Str.ofString "/claim/cut.py") 629] }
noncomputable def oK114 : Obj := fnK 67 (Str.ofString "law_tl0009_01") 608 113
noncomputable def oK115 : Obj :=
  { cls := PySem.Value.type "tuple", data := PySem.Data.seq #[] }
noncomputable def oK117 : Obj :=
  { cls := PySem.Value.type "tuple",
    data :=
      PySem.Data.seq
        #[PySem.Value.str (PySem.Str.ofString "word") 634, PySem.Value.str (PySem.Str.ofString "factor") 635,
          PySem.Value.str (PySem.Str.ofString "told") 636, PySem.Value.str (PySem.Str.ofString "behind") 637,
          PySem.Value.str (PySem.Str.ofString "place") 638] }
noncomputable def oK118 : Obj :=
  { cls := PySem.Value.type "tuple", data := PySem.Data.seq #[] }
noncomputable def oK120 : Obj :=
  { cls := PySem.Value.type "code",
    data :=
      PySem.Data.fields
        #[PySem.Value.str (PySem.Str.ofString "_law_home") 631, PySem.Value.str (PySem.Str.ofString "_law_home") 632,
          PySem.Value.str (PySem.Str.ofString "/claim/cut.py") 633, PySem.Value.int 97 0, PySem.Value.int 2 0,
          PySem.Value.int 0 0, PySem.Value.int 0 0, PySem.Value.int 3 0, PySem.Value.ref 115, PySem.Value.bool true,
          PySem.Value.int 276 0, PySem.Value.ref 116, PySem.Value.none, PySem.Value.ref 117, PySem.Value.ref 118,
          PySem.Value.ref 119, PySem.Value.int 639 0, PySem.Value.int 97 0,
          PySem.Value.str (PySem.Str.ofString "/claim/cut.py") 640] }
noncomputable def oK121 : Obj := fnK 68 (Str.ofString "law_tl0009_01") 608 120
noncomputable def oK122 : Obj :=
  { cls := PySem.Value.type "tuple", data := PySem.Data.seq #[] }
noncomputable def oK124 : Obj :=
  { cls := PySem.Value.type "tuple",
    data :=
      PySem.Data.seq
        #[PySem.Value.str (PySem.Str.ofString "number") 645, PySem.Value.str (PySem.Str.ofString "factor") 646,
          PySem.Value.str (PySem.Str.ofString "shift") 647, PySem.Value.str (PySem.Str.ofString "way") 648,
          PySem.Value.str (PySem.Str.ofString "scale") 649, PySem.Value.str (PySem.Str.ofString "even") 650,
          PySem.Value.str (PySem.Str.ofString "row") 651] }
noncomputable def oK125 : Obj :=
  { cls := PySem.Value.type "tuple", data := PySem.Data.seq #[] }
noncomputable def oK127 : Obj :=
  { cls := PySem.Value.type "code",
    data :=
      PySem.Data.fields
        #[PySem.Value.str (PySem.Str.ofString "_law_typed") 642, PySem.Value.str (PySem.Str.ofString "_law_typed") 643,
          PySem.Value.str (PySem.Str.ofString "/claim/cut.py") 644, PySem.Value.int 105 0, PySem.Value.int 4 0,
          PySem.Value.int 0 0, PySem.Value.int 0 0, PySem.Value.int 3 0, PySem.Value.ref 122, PySem.Value.bool true,
          PySem.Value.int 276 0, PySem.Value.ref 123, PySem.Value.none, PySem.Value.ref 124, PySem.Value.ref 125,
          PySem.Value.ref 126, PySem.Value.int 652 0, PySem.Value.int 105 0,
          PySem.Value.str (PySem.Str.ofString "/claim/cut.py") 653] }
noncomputable def oK128 : Obj := fnK 69 (Str.ofString "law_tl0009_01") 608 127
noncomputable def oK129 : Obj :=
  { cls := PySem.Value.type "tuple", data := PySem.Data.seq #[] }
noncomputable def oK131 : Obj :=
  { cls := PySem.Value.type "tuple",
    data :=
      PySem.Data.seq
        #[PySem.Value.str (PySem.Str.ofString "dots") 658, PySem.Value.str (PySem.Str.ofString "odd") 659,
          PySem.Value.str (PySem.Str.ofString "shift") 660, PySem.Value.str (PySem.Str.ofString "way") 661,
          PySem.Value.str (PySem.Str.ofString "row") 662] }
noncomputable def oK132 : Obj :=
  { cls := PySem.Value.type "tuple", data := PySem.Data.seq #[] }
noncomputable def oK134 : Obj :=
  { cls := PySem.Value.type "code",
    data :=
      PySem.Data.fields
        #[PySem.Value.str (PySem.Str.ofString "_law_row") 655, PySem.Value.str (PySem.Str.ofString "_law_row") 656,
          PySem.Value.str (PySem.Str.ofString "/claim/cut.py") 657, PySem.Value.int 115 0, PySem.Value.int 4 0,
          PySem.Value.int 0 0, PySem.Value.int 0 0, PySem.Value.int 3 0, PySem.Value.ref 129, PySem.Value.bool true,
          PySem.Value.int 276 0, PySem.Value.ref 130, PySem.Value.none, PySem.Value.ref 131, PySem.Value.ref 132,
          PySem.Value.ref 133, PySem.Value.int 663 0, PySem.Value.int 115 0,
          PySem.Value.str (PySem.Str.ofString "/claim/cut.py") 664] }
noncomputable def oK135 : Obj := fnK 70 (Str.ofString "law_tl0009_01") 608 134
noncomputable def oK136 : Obj :=
  { cls := PySem.Value.type "tuple", data := PySem.Data.seq #[] }
noncomputable def oK138 : Obj :=
  { cls := PySem.Value.type "tuple",
    data :=
      PySem.Data.seq
        #[PySem.Value.str (PySem.Str.ofString "dots") 669, PySem.Value.str (PySem.Str.ofString "odd") 670,
          PySem.Value.str (PySem.Str.ofString "shift") 671, PySem.Value.str (PySem.Str.ofString "way") 672,
          PySem.Value.str (PySem.Str.ofString "behind") 673, PySem.Value.str (PySem.Str.ofString "kinds") 674] }
noncomputable def oK139 : Obj :=
  { cls := PySem.Value.type "tuple", data := PySem.Data.seq #[] }
noncomputable def oK141 : Obj :=
  { cls := PySem.Value.type "code",
    data :=
      PySem.Data.fields
        #[PySem.Value.str (PySem.Str.ofString "_law_due") 666, PySem.Value.str (PySem.Str.ofString "_law_due") 667,
          PySem.Value.str (PySem.Str.ofString "/claim/cut.py") 668, PySem.Value.int 118 0, PySem.Value.int 4 0,
          PySem.Value.int 0 0, PySem.Value.int 0 0, PySem.Value.int 3 0, PySem.Value.ref 136, PySem.Value.bool true,
          PySem.Value.int 276 0, PySem.Value.ref 137, PySem.Value.none, PySem.Value.ref 138, PySem.Value.ref 139,
          PySem.Value.ref 140, PySem.Value.int 675 0, PySem.Value.int 118 0,
          PySem.Value.str (PySem.Str.ofString "/claim/cut.py") 676] }
noncomputable def oK142 : Obj := fnK 71 (Str.ofString "law_tl0009_01") 608 141
noncomputable def oK143 : Obj :=
  { cls := PySem.Value.type "tuple", data := PySem.Data.seq #[] }
noncomputable def oK145 : Obj :=
  { cls := PySem.Value.type "tuple",
    data :=
      PySem.Data.seq
        #[PySem.Value.str (PySem.Str.ofString "row") 681, PySem.Value.str (PySem.Str.ofString "kinds") 682,
          PySem.Value.str (PySem.Str.ofString "size") 683] }
noncomputable def oK146 : Obj :=
  { cls := PySem.Value.type "tuple", data := PySem.Data.seq #[] }
noncomputable def oK148 : Obj :=
  { cls := PySem.Value.type "code",
    data :=
      PySem.Data.fields
        #[PySem.Value.str (PySem.Str.ofString "_law_kinds") 678, PySem.Value.str (PySem.Str.ofString "_law_kinds") 679,
          PySem.Value.str (PySem.Str.ofString "/claim/cut.py") 680, PySem.Value.int 122 0, PySem.Value.int 1 0,
          PySem.Value.int 0 0, PySem.Value.int 0 0, PySem.Value.int 3 0, PySem.Value.ref 143, PySem.Value.bool true,
          PySem.Value.int 276 0, PySem.Value.ref 144, PySem.Value.none, PySem.Value.ref 145, PySem.Value.ref 146,
          PySem.Value.ref 147, PySem.Value.int 684 0, PySem.Value.int 122 0,
          PySem.Value.str (PySem.Str.ofString "/claim/cut.py") 685] }
noncomputable def oK149 : Obj := fnK 72 (Str.ofString "law_tl0009_01") 608 148
noncomputable def oK150 : Obj :=
  { cls := PySem.Value.type "tuple", data := PySem.Data.seq #[] }
noncomputable def oK152 : Obj :=
  { cls := PySem.Value.type "tuple",
    data :=
      PySem.Data.seq
        #[PySem.Value.str (PySem.Str.ofString "kinds") 690, PySem.Value.str (PySem.Str.ofString "place") 691,
          PySem.Value.str (PySem.Str.ofString "left") 692, PySem.Value.str (PySem.Str.ofString "right") 693] }
noncomputable def oK153 : Obj :=
  { cls := PySem.Value.type "tuple", data := PySem.Data.seq #[] }
noncomputable def oK155 : Obj :=
  { cls := PySem.Value.type "code",
    data :=
      PySem.Data.fields
        #[PySem.Value.str (PySem.Str.ofString "_law_next") 687, PySem.Value.str (PySem.Str.ofString "_law_next") 688,
          PySem.Value.str (PySem.Str.ofString "/claim/cut.py") 689, PySem.Value.int 129 0, PySem.Value.int 1 0,
          PySem.Value.int 0 0, PySem.Value.int 0 0, PySem.Value.int 3 0, PySem.Value.ref 150, PySem.Value.bool true,
          PySem.Value.int 276 0, PySem.Value.ref 151, PySem.Value.none, PySem.Value.ref 152, PySem.Value.ref 153,
          PySem.Value.ref 154, PySem.Value.int 694 0, PySem.Value.int 129 0,
          PySem.Value.str (PySem.Str.ofString "/claim/cut.py") 695] }
noncomputable def oK156 : Obj := fnK 73 (Str.ofString "law_tl0009_01") 608 155
noncomputable def oK157 : Obj :=
  { cls := PySem.Value.type "tuple", data := PySem.Data.seq #[] }
noncomputable def oK159 : Obj :=
  { cls := PySem.Value.type "tuple",
    data :=
      PySem.Data.seq
        #[PySem.Value.str (PySem.Str.ofString "numbers") 700, PySem.Value.str (PySem.Str.ofString "factor") 701,
          PySem.Value.str (PySem.Str.ofString "shift") 702, PySem.Value.str (PySem.Str.ofString "sent") 703,
          PySem.Value.str (PySem.Str.ofString "way") 704, PySem.Value.str (PySem.Str.ofString "text") 705,
          PySem.Value.str (PySem.Str.ofString "rows") 706, PySem.Value.str (PySem.Str.ofString "due") 707,
          PySem.Value.str (PySem.Str.ofString "below") 708, PySem.Value.str (PySem.Str.ofString "k") 709,
          PySem.Value.str (PySem.Str.ofString "odd") 710, PySem.Value.str (PySem.Str.ofString "dots") 711,
          PySem.Value.str (PySem.Str.ofString "told") 712, PySem.Value.str (PySem.Str.ofString "kinds") 713,
          PySem.Value.str (PySem.Str.ofString "both") 714] }
noncomputable def oK160 : Obj :=
  { cls := PySem.Value.type "tuple", data := PySem.Data.seq #[] }
noncomputable def oK162 : Obj :=
  { cls := PySem.Value.type "code",
    data :=
      PySem.Data.fields
        #[PySem.Value.str (PySem.Str.ofString "_law_round") 697, PySem.Value.str (PySem.Str.ofString "_law_round") 698,
          PySem.Value.str (PySem.Str.ofString "/claim/cut.py") 699, PySem.Value.int 138 0, PySem.Value.int 5 0,
          PySem.Value.int 0 0, PySem.Value.int 0 0, PySem.Value.int 3 0, PySem.Value.ref 157, PySem.Value.bool true,
          PySem.Value.int 276 0, PySem.Value.ref 158, PySem.Value.none, PySem.Value.ref 159, PySem.Value.ref 160,
          PySem.Value.ref 161, PySem.Value.int 715 0, PySem.Value.int 138 0,
          PySem.Value.str (PySem.Str.ofString "/claim/cut.py") 716] }
noncomputable def oK163 : Obj := fnK 74 (Str.ofString "law_tl0009_01") 608 162
noncomputable def oK164 : Obj :=
  { cls := PySem.Value.type "tuple", data := PySem.Data.seq #[] }
noncomputable def oK167 : Obj :=
  { cls := PySem.Value.type "code",
    data :=
      PySem.Data.fields
        #[PySem.Value.str (PySem.Str.ofString "law") 718, PySem.Value.str (PySem.Str.ofString "law") 719,
          PySem.Value.str (PySem.Str.ofString "/claim/cut.py") 720, PySem.Value.int 164 0, PySem.Value.int 1 0,
          PySem.Value.int 0 0, PySem.Value.int 0 0, PySem.Value.int 3 0, PySem.Value.ref 164, PySem.Value.bool true,
          PySem.Value.int 276 0, PySem.Value.ref 165, PySem.Value.none, PySem.Value.none, PySem.Value.none,
          PySem.Value.ref 166, PySem.Value.int 721 0, PySem.Value.int 164 0,
          PySem.Value.str (PySem.Str.ofString "/claim/cut.py") 722] }
noncomputable def oK168 : Obj := fnK 75 (Str.ofString "law_tl0009_01") 608 167
noncomputable def heapK : Params → Frag := fun P => (
  (nat_lit 2, oK2 P) ::
  (nat_lit 3, oK3 P) ::
  (nat_lit 32, oK32) ::
  (nat_lit 34, oK34) ::
  (nat_lit 35, oK35) ::
  (nat_lit 37, oK37) ::
  (nat_lit 38, oK38) ::
  (nat_lit 39, oK39) ::
  (nat_lit 41, oK41) ::
  (nat_lit 42, oK42) ::
  (nat_lit 44, oK44) ::
  (nat_lit 45, oK45) ::
  (nat_lit 46, oK46) ::
  (nat_lit 48, oK48) ::
  (nat_lit 49, oK49) ::
  (nat_lit 51, oK51) ::
  (nat_lit 52, oK52) ::
  (nat_lit 53, oK53) ::
  (nat_lit 55, oK55) ::
  (nat_lit 56, oK56) ::
  (nat_lit 58, oK58) ::
  (nat_lit 59, oK59) ::
  (nat_lit 60, oK60) ::
  (nat_lit 62, oK62) ::
  (nat_lit 63, oK63) ::
  (nat_lit 65, oK65) ::
  (nat_lit 66, oK66) ::
  (nat_lit 67, oK67) ::
  (nat_lit 69, oK69) ::
  (nat_lit 70, oK70) ::
  (nat_lit 72, oK72) ::
  (nat_lit 73, oK73) ::
  (nat_lit 77, oK77) ::
  (nat_lit 78, oK78) ::
  (nat_lit 82, oK82) ::
  (nat_lit 83, oK83) ::
  (nat_lit 84, oK84) ::
  (nat_lit 86, oK86) ::
  (nat_lit 87, oK87) ::
  (nat_lit 89, oK89) ::
  (nat_lit 90, oK90) ::
  (nat_lit 91, oK91 P) ::
  (nat_lit 94, oK94) ::
  (nat_lit 96, oK96) ::
  (nat_lit 97, oK97) ::
  (nat_lit 99, oK99) ::
  (nat_lit 100, oK100) ::
  (nat_lit 101, oK101) ::
  (nat_lit 103, oK103) ::
  (nat_lit 104, oK104) ::
  (nat_lit 106, oK106) ::
  (nat_lit 107, oK107) ::
  (nat_lit 108, oK108) ::
  (nat_lit 110, oK110) ::
  (nat_lit 111, oK111) ::
  (nat_lit 113, oK113) ::
  (nat_lit 114, oK114) ::
  (nat_lit 115, oK115) ::
  (nat_lit 117, oK117) ::
  (nat_lit 118, oK118) ::
  (nat_lit 120, oK120) ::
  (nat_lit 121, oK121) ::
  (nat_lit 122, oK122) ::
  (nat_lit 124, oK124) ::
  (nat_lit 125, oK125) ::
  (nat_lit 127, oK127) ::
  (nat_lit 128, oK128) ::
  (nat_lit 129, oK129) ::
  (nat_lit 131, oK131) ::
  (nat_lit 132, oK132) ::
  (nat_lit 134, oK134) ::
  (nat_lit 135, oK135) ::
  (nat_lit 136, oK136) ::
  (nat_lit 138, oK138) ::
  (nat_lit 139, oK139) ::
  (nat_lit 141, oK141) ::
  (nat_lit 142, oK142) ::
  (nat_lit 143, oK143) ::
  (nat_lit 145, oK145) ::
  (nat_lit 146, oK146) ::
  (nat_lit 148, oK148) ::
  (nat_lit 149, oK149) ::
  (nat_lit 150, oK150) ::
  (nat_lit 152, oK152) ::
  (nat_lit 153, oK153) ::
  (nat_lit 155, oK155) ::
  (nat_lit 156, oK156) ::
  (nat_lit 157, oK157) ::
  (nat_lit 159, oK159) ::
  (nat_lit 160, oK160) ::
  (nat_lit 162, oK162) ::
  (nat_lit 163, oK163) ::
  (nat_lit 164, oK164) ::
  (nat_lit 167, oK167) ::
  (nat_lit 168, oK168) :: [] : List (Nat × Obj))
end MineHead
end PartK0

section PartK1
open PySem PySem.W PyProof.Rows
namespace MineHead
abbrev asK : List Addr := [2, 3, 32, 34, 35, 37, 38, 39, 41, 42, 44, 45, 46, 48, 49, 51, 52, 53, 55, 56, 58, 59, 60, 62, 63, 65, 66, 67, 69, 70,
  72, 73, 77, 78, 82, 83, 84, 86, 87, 89, 90, 91, 94, 96, 97, 99, 100, 101, 103, 104, 106, 107, 108, 110, 111, 113, 114,
  115, 117, 118, 120, 121, 122, 124, 125, 127, 128, 129, 131, 132, 134, 135, 136, 138, 139, 141, 142, 143, 145, 146,
  148, 149, 150, 152, 153, 155, 156, 157, 159, 160, 162, 163, 164, 167, 168]
noncomputable def hookK : Hook := kHook heapK asK (fun _ => by kernel_rfl)
/-- the walk, for every view of the text -/
abbrev WalkK : Prop := ∀ (q : Program) (loose : List PySem.Str) (XP : (PySem.Str → Option Value) → Heap → Prop) (d : DefRec) (kwd : List (PySem.Str × PySem.Expr)), d.name = PySem.Str.ofString "law" → WalkT q loose XP (Hook.says hookK) PySem.Challenge.rw_tl0009_01.row.toRowW d kwd
end MineHead
end PartK1

section PartMine
open PySem PySem.W PyProof.Rows PySem.Calls
namespace Mine
section PartL1
noncomputable abbrev KF (w : World) : Frag := MineHead.heapK w.params
noncomputable abbrev prg : Program := PySem.Challenge.rw_tl0009_01.row.prog
abbrev Ext (h h' : Heap) : Prop := ∀ b o, h.get? b = some o → h'.get? b = some o

theorem Ext.none {h h' : Heap} (e : Ext h h') {a : Addr} (n : h'.get? a = none) : h.get? a = none := by
  cases q : h.get? a with
  | none => rfl
  | some o => rw [e a o q] at n; cases n

/-- the standing part of the world: the written objects and the top's facts -/
structure Wd (w : World) (h : Heap) : Prop where
  X : (KF w).In h
  T : ∃ p loose mean mg mb, Top p loose mean mg mb h
theorem Wd.keeps {w : World} {h h' : Heap} (x : Wd w h) (e : Ext h h') : Wd w h' :=
  ⟨x.X.keeps e, let ⟨p, l, m, g, b, T⟩ := x.T; ⟨p, l, m, g, b, T.keeps e⟩⟩

/-- the floor under the tokens -/
abbrev TB (s : Shared) : Prop := 499 ≤ s.toks

theorem runs_up {M : Model} {Γ : Ctx} {p : Pos} {t : Sem Fin} {fs : List Frame} {s s' : Shared} {e : End} (h : Runs M Γ p t fs s e s') : s.toks ≤ s'.toks := by
  induction h <;> first | exact Nat.le_refl _ | assumption | exact Nat.le_of_succ_le (by assumption) | (rename_i a b; exact Nat.le_trans a b)
theorem wakes_up {M : Model} {Γ : Ctx} {p : Pos} {g : Nat} {r : Resume} {s s' : Shared} {res : GenResult} (h : Wakes M Γ p g r s res s') : s.toks ≤ s'.toks := by
  unfold Wakes at h
  split at h
  · exact h.elim
  · split at h
    · obtain ⟨_, _, a, _, _, rfl⟩ := h; exact (runs_up a : (s.setGen g .running).toks ≤ _)
    · obtain ⟨_, rfl⟩ := h; exact Nat.le_refl _
    · obtain ⟨_, rfl⟩ := h; exact Nat.le_refl _
  · obtain ⟨_, _, a, _, _, rfl⟩ := h; exact (runs_up a : (s.setGen g .running).toks ≤ _)
  · obtain ⟨_, rfl⟩ := h; exact Nat.le_refl _
  · obtain ⟨_, rfl⟩ := h; exact Nat.le_refl _
theorem wp_up {α : Type} {M : Model} {Γ : Ctx} {Q : α → Pos → Shared → Prop} {E : Value → Pos → Shared → Prop} (n : Nat) (t : Sem α) : ∀ (p : Pos) (s : Shared), n ≤ s.toks → Sem.wp M Γ t Q E p s → Sem.wp M Γ t (fun a p' s' => Q a p' s' ∧ n ≤ s'.toks) E p s := by
  induction t with
  | pure a => intro p s hn h; exact ⟨h, hn⟩
  | raise e => intro p s hn h; exact h
  | «unsupported» _ => intro p s hn h; exact h.elim
  | finish _ => intro p s hn h; exact h.elim
  | rule _ k ih => intro p s hn h; exact ih () p s hn h
  | «at» p' k ih => intro p s hn h; exact ih () p' s hn h
  | load a _ k ih => intro p s hn h; obtain ⟨o, ho, h⟩ := h; exact ⟨o, ho, ih o p s hn h⟩
  | update a _ f k ih => intro p s hn h; exact ⟨h.1, ih () p _ hn h.2⟩
  | loadIfAlive a k ih => intro p s hn h; exact ih _ p s hn h
  | point _ k ih => intro p s hn h; exact ih () p s hn h
  | register _ _ _ => intro p s hn h; exact h.elim
  | alloc o k ih => intro p s hn h; exact ih _ p _ hn h
  | fresh k ih => intro p s hn h; exact ih _ p _ (Nat.le_succ_of_le hn) h
  | ask k ih => intro p s hn h; exact ih _ p s hn h
  | choose src m k ih => intro p s hn h; exact ⟨h.1, ih _ p _ hn h.2⟩
  | os q _ k ih => intro p s hn h; exact ih _ p _ hn h
  | call c hh _ _ k ih => intro p s hn h; obtain ⟨r, s', a, h⟩ := h; exact ⟨r, s', a, ih r p s' (Nat.le_trans hn (runs_up a)) h⟩
  | handled own k ih => intro p s hn h; exact ih _ p s hn h
  | genState g k ih => intro p s hn h; obtain ⟨st, hs, h⟩ := h; exact ⟨st, hs, ih _ p s hn h⟩
  | newGen c k ih => intro p s hn h; exact ih _ p _ hn h
  | resume g r _ k ih => intro p s hn h; obtain ⟨res, s', a, h⟩ := h; exact ⟨res, s', a, ih _ p s' (Nat.le_trans hn (wakes_up a)) h⟩
  | «yield» _ _ _ _ _ => intro p s hn h; exact h.elim
  | stack k ih => intro p s hn h; exact ih _ p s hn h
  | fork _ _ _ => intro p s hn h; exact h.elim
  | thread k ih => intro p s hn h; exact ih _ p s hn h
  | await _ _ _ => intro p s hn h; exact h.elim
/-- the floor holds behind a tree -/
theorem asm {α : Type} {M : Model} {A : Around} {t : Sem α} {Q : α → Shared → Prop} {E : Value → Shared → Prop} {s : Shared} (tb : TB s) (h : wpAny M A t (fun v s' => 499 ≤ s'.toks → Q v s') E s) : wpAny M A t Q E s :=
  fun Γ p hΓ => Sem.wp_mono M Γ t (fun _ _ _ q => q.1 q.2) (fun _ _ _ q => q) p s (wp_up 499 t p s tb (h Γ p hΓ))

/-- an int with a grade: true, a token below the floor; false, one above -/
abbrev gI (g : Bool) (i : Int) : PyData := .tuple [.int i, .bool g]
def Gr (g : Bool) (t : Tok) : Prop := bif g then 0 < t ∧ t < 499 else 499 ≤ t

mutual
/-- a value reads as a datum, over addresses of a kind -/
inductive Rd (h : Heap) (P : Addr → Prop) : Value → PyData → Prop
  | none : Rd h P .none .none
  | bool (b : Bool) : Rd h P (.bool b) (.bool b)
  | int (i : Int) (t : Tok) : Rd h P (.int i t) (.int i)
  | str (x : Str) (t : Tok) : Rd h P (.str x t) (.str x)
  | gint {g : Bool} (i : Int) {t : Tok} (hg : Gr g t) : Rd h P (.int i t) (gI g i)
  | list {a : Addr} {vs : Array Value} {ds : List PyData} : PlainL h a vs → RdL h P vs.toList ds → P a → Rd h P (.ref a) (.list ds)
inductive RdL (h : Heap) (P : Addr → Prop) : List Value → List PyData → Prop
  | nil : RdL h P [] []
  | cons {v : Value} {d : PyData} {vs : List Value} {ds : List PyData} : Rd h P v d → RdL h P vs ds → RdL h P (v :: vs) (d :: ds)
end

/-- kept where the addresses' kind holds and an object is a list -/
theorem PlainL.on {h h' : Heap} {a : Addr} {xs : Array Value} (p : PlainL h a xs) (e : ∀ o xs n, h.get? a = some o → o.data = .seq xs n → h'.get? a = some o) : PlainL h' a xs :=
  let ⟨o, n, ho, hc, hd, ht⟩ := p; ⟨o, n, e o xs n ho ht, hc, hd, ht⟩

mutual
theorem Rd.move {h h' : Heap} {P P' : Addr → Prop} (e : ∀ a o xs n, P a → h.get? a = some o → o.data = .seq xs n → h'.get? a = some o ∧ P' a) : ∀ {v : Value} {d : PyData}, Rd h P v d → Rd h' P' v d
  | _, _, .none => .none
  | _, _, .bool b => .bool b
  | _, _, .int i t => .int i t
  | _, _, .str x t => .str x t
  | _, _, .gint i hg => .gint i hg
  | _, _, .list hl r pa => .list (PlainL.on hl fun o xs n ho hd => (e _ o xs n pa ho hd).1) (RdL.move e r) (let ⟨o, n, ho, _, _, hd⟩ := hl; (e _ o _ n pa ho hd).2)
theorem RdL.move {h h' : Heap} {P P' : Addr → Prop} (e : ∀ a o xs n, P a → h.get? a = some o → o.data = .seq xs n → h'.get? a = some o ∧ P' a) : ∀ {vs : List Value} {ds : List PyData}, RdL h P vs ds → RdL h' P' vs ds
  | _, _, .nil => .nil
  | _, _, .cons a b => .cons (Rd.move e a) (RdL.move e b)
end
theorem Rd.on {h h' : Heap} {P : Addr → Prop} {v : Value} {d : PyData} (r : Rd h P v d) (e : ∀ a o xs n, P a → h.get? a = some o → o.data = .seq xs n → h'.get? a = some o) : Rd h' P v d := r.move fun a o xs n p ho hd => ⟨e a o xs n p ho hd, p⟩
theorem RdL.on {h h' : Heap} {P : Addr → Prop} {v : List Value} {d : List PyData} (r : RdL h P v d) (e : ∀ a o xs n, P a → h.get? a = some o → o.data = .seq xs n → h'.get? a = some o) : RdL h' P v d := r.move fun a o xs n p ho hd => ⟨e a o xs n p ho hd, p⟩
/-- the addresses are lists that stand -/
theorem Rd.there {h : Heap} {P P' : Addr → Prop} {v : Value} {d : PyData} (r : Rd h P v d) (e : ∀ a o, P a → h.get? a = some o → P' a) : Rd h P' v d := r.move fun a o _ _ p ho _ => ⟨ho, e a o p ho⟩
theorem RdL.there {h : Heap} {P P' : Addr → Prop} {v : List Value} {d : List PyData} (r : RdL h P v d) (e : ∀ a o, P a → h.get? a = some o → P' a) : RdL h P' v d := r.move fun a o _ _ p ho _ => ⟨ho, e a o p ho⟩
theorem Rd.keeps {h h' : Heap} {P : Addr → Prop} {v : Value} {d : PyData} (r : Rd h P v d) (e : Ext h h') : Rd h' P v d := r.on fun a o _ _ _ ho _ => e a o ho
theorem RdL.keeps {h h' : Heap} {P : Addr → Prop} {v : List Value} {d : List PyData} (r : RdL h P v d) (e : Ext h h') : RdL h' P v d := r.on fun a o _ _ _ ho _ => e a o ho
theorem Rd.mono {h : Heap} {P P' : Addr → Prop} {v : Value} {d : PyData} (r : Rd h P v d) (e : ∀ a, P a → P' a) : Rd h P' v d := r.there fun a _ p _ => e a p
theorem RdL.mono {h : Heap} {P P' : Addr → Prop} {v : List Value} {d : List PyData} (r : RdL h P v d) (e : ∀ a, P a → P' a) : RdL h P' v d := r.there fun a _ p _ => e a p

theorem Rd.int_inv {h : Heap} {P : Addr → Prop} {v : Value} {i : Int} (r : Rd h P v (.int i)) : ∃ t, v = .int i t := by cases r; exact ⟨_, rfl⟩
theorem Rd.str_inv {h : Heap} {P : Addr → Prop} {v : Value} {x : Str} (r : Rd h P v (.str x)) : ∃ t, v = .str x t := by cases r; exact ⟨_, rfl⟩
theorem Rd.bool_inv {h : Heap} {P : Addr → Prop} {v : Value} {b : Bool} (r : Rd h P v (.bool b)) : v = .bool b := by cases r; rfl
theorem Rd.gint_inv {h : Heap} {P : Addr → Prop} {v : Value} {g : Bool} {i : Int} (r : Rd h P v (gI g i)) : ∃ t, v = .int i t ∧ Gr g t := by cases r with | gint i hg => exact ⟨_, rfl, hg⟩
theorem Rd.list_inv {h : Heap} {P : Addr → Prop} {v : Value} {ds : List PyData} (r : Rd h P v (.list ds)) : ∃ a vs, v = .ref a ∧ PlainL h a vs ∧ RdL h P vs.toList ds ∧ P a := by
  cases r with | list hl r pa => exact ⟨_, _, rfl, hl, r, pa⟩
theorem RdL.inv {h : Heap} {P : Addr → Prop} {v : Value} {vs : List Value} {ds : List PyData} (r : RdL h P (v :: vs) ds) : ∃ d es, ds = d :: es ∧ Rd h P v d ∧ RdL h P vs es := by
  cases r with | cons a b => exact ⟨_, _, rfl, a, b⟩
theorem RdL.nil_inv {h : Heap} {P : Addr → Prop} {ds : List PyData} (r : RdL h P [] ds) : ds = [] := by cases r; rfl
theorem RdL.cons_inv {h : Heap} {P : Addr → Prop} {d : PyData} {vs : List Value} {ds : List PyData} (r : RdL h P vs (d :: ds)) : ∃ v us, vs = v :: us ∧ Rd h P v d ∧ RdL h P us ds := by
  cases r with | cons a b => exact ⟨_, _, rfl, a, b⟩
theorem RdL.nil_inv' {h : Heap} {P : Addr → Prop} {vs : List Value} (r : RdL h P vs []) : vs = [] := by cases r; rfl
theorem RdL.length {h : Heap} {P : Addr → Prop} : ∀ {vs : List Value} {ds : List PyData}, RdL h P vs ds → vs.length = ds.length
  | [], ds, r => by rw [r.nil_inv]; rfl
  | v :: vs, ds, r => by obtain ⟨d, es, rfl, _, r⟩ := r.inv; simp [RdL.length r]
theorem RdL.append {h : Heap} {P : Addr → Prop} : ∀ {vs : List Value} {ds : List PyData} {us : List Value} {es : List PyData}, RdL h P vs ds → RdL h P us es → RdL h P (vs ++ us) (ds ++ es)
  | [], ds, _, _, r, q => by rw [r.nil_inv]; exact q
  | v :: vs, ds, _, _, r, q => by obtain ⟨d, es, rfl, a, r⟩ := r.inv; exact .cons a (RdL.append r q)
theorem RdL.get {h : Heap} {P : Addr → Prop} : ∀ {vs : List Value} {ds : List PyData} {i : Nat} {d : PyData}, RdL h P vs ds → ds[i]? = some d → ∃ v, vs[i]? = some v ∧ Rd h P v d
  | [], ds, i, d, r, e => by rw [r.nil_inv] at e; simp at e
  | v :: vs, ds, i, d, r, e => by
    obtain ⟨d', es, rfl, a, r⟩ := r.inv
    cases i with
    | zero => simp at e; subst e; exact ⟨v, rfl, a⟩
    | succ j => simpa using RdL.get (i := j) r (by simpa using e)
theorem RdL.get' {h : Heap} {P : Addr → Prop} {vs : List Value} {ds : List PyData} {i : Nat} {v : Value} (r : RdL h P vs ds) (e : vs[i]? = some v) : ∃ d, ds[i]? = some d ∧ Rd h P v d := by
  have hl := r.length
  have hi : i < ds.length := by
    rw [← hl]; exact (List.getElem?_eq_some_iff.mp e).1
  obtain ⟨v', e', r'⟩ := r.get (List.getElem?_eq_getElem hi)
  rw [e] at e'; cases e'
  exact ⟨_, List.getElem?_eq_getElem hi, r'⟩
theorem RdL.drop {h : Heap} {P : Addr → Prop} : ∀ {vs : List Value} {ds : List PyData} (k : Nat), RdL h P vs ds → RdL h P (vs.drop k) (ds.drop k)
  | _, _, 0, r => r
  | [], ds, k + 1, r => by rw [r.nil_inv]; exact .nil
  | v :: vs, ds, k + 1, r => by obtain ⟨d, es, rfl, _, r⟩ := r.inv; exact RdL.drop k r
theorem RdL.take {h : Heap} {P : Addr → Prop} : ∀ {vs : List Value} {ds : List PyData} (k : Nat), RdL h P vs ds → RdL h P (vs.take k) (ds.take k)
  | _, _, 0, _ => .nil
  | [], ds, k + 1, r => by rw [r.nil_inv]; exact .nil
  | v :: vs, ds, k + 1, r => by obtain ⟨d, es, rfl, a, r⟩ := r.inv; exact .cons a (RdL.take k r)
theorem RdL.set {h : Heap} {P : Addr → Prop} : ∀ {vs : List Value} {ds : List PyData} {v : Value} {d : PyData} (k : Nat), RdL h P vs ds → Rd h P v d → RdL h P (vs.set k v) (ds.set k d)
  | [], ds, _, _, k, r, _ => by rw [r.nil_inv]; exact .nil
  | v :: vs, ds, _, _, 0, r, q => by obtain ⟨d, es, rfl, _, r⟩ := r.inv; exact .cons q r
  | v :: vs, ds, _, _, k + 1, r, q => by obtain ⟨d, es, rfl, a, r⟩ := r.inv; exact .cons a (RdL.set k r q)


/-- atoms: no address within -/
def atom : PyData → Bool
  | .int _ | .str _ | .bool _ | .none | .tuple _ => true
  | _ => false
theorem Rd.of_atom_heap {h h' : Heap} {P P' : Addr → Prop} {v : Value} {d : PyData} (ha : atom d = true) (r : Rd h P v d) : Rd h' P' v d := by
  cases r with
  | none => exact .none
  | bool b => exact .bool b
  | int i t => exact .int i t
  | str x t => exact .str x t
  | gint i hg => exact .gint i hg
  | list _ _ _ => simp [atom] at ha
theorem RdL.of_atoms_heap {h h' : Heap} {P P' : Addr → Prop} : ∀ {vs : List Value} {ds : List PyData}, ds.all atom = true → RdL h P vs ds → RdL h' P' vs ds
  | [], ds, _, r => by rw [r.nil_inv]; exact .nil
  | v :: vs, ds, ha, r => by
    obtain ⟨d, es, rfl, a, r⟩ := r.inv
    simp at ha
    exact .cons (a.of_atom_heap ha.1) (RdL.of_atoms_heap (by simpa using ha.2) r)
theorem Rd.of_atom {h : Heap} {P P' : Addr → Prop} {v : Value} {d : PyData} (ha : atom d = true) (r : Rd h P v d) : Rd h P' v d := r.of_atom_heap ha
theorem RdL.of_atoms {h h' : Heap} {P P' : Addr → Prop} {vs : List Value} {ds : List PyData} (ha : ds.all atom = true) (r : RdL h P vs ds) : RdL h P' vs ds := r.of_atoms_heap ha

mutual
/-- the grades taken off -/
def bare : PyData → PyData
  | .tuple [.int i, .bool _] => .int i
  | .list ds => .list (bareL ds)
  | d => d
def bareL : List PyData → List PyData
  | [] => []
  | d :: ds => bare d :: bareL ds
end
mutual
theorem Rd.bare {h : Heap} {P : Addr → Prop} : ∀ {v : Value} {d : PyData}, Rd h P v d → Rd h P v (bare d)
  | _, _, .none => .none
  | _, _, .bool b => .bool b
  | _, _, .int i t => .int i t
  | _, _, .str x t => .str x t
  | _, _, .gint i _ => .int i _
  | _, _, .list hl r pa => .list hl (RdL.bare r) pa
theorem RdL.bare {h : Heap} {P : Addr → Prop} : ∀ {vs : List Value} {ds : List PyData}, RdL h P vs ds → RdL h P vs (bareL ds)
  | _, _, .nil => .nil
  | _, _, .cons a b => .cons (Rd.bare a) (RdL.bare b)
end
theorem bareL_g (g : Bool) : ∀ ns : List Int, bareL (ns.map (gI g)) = ns.map .int
  | [] => rfl
  | n :: ns => by show PyData.int n :: bareL (ns.map (gI g)) = _; rw [bareL_g g ns]; rfl

mutual
/-- no tuple, no dict within -/
def noTup : PyData → Bool
  | .tuple _ => false
  | .dict _ => false
  | .list xs => noTupL xs
  | _ => true
def noTupL : List PyData → Bool
  | [] => true
  | d :: ds => noTup d && noTupL ds
end
mutual
theorem Rd.reads {h : Heap} {P : Addr → Prop} : ∀ {v : Value} {d : PyData}, Rd h P v d → noTup d = true → ∃ as, Reads h v d as
  | _, _, .none, _ => ⟨_, .none⟩
  | _, _, .bool b, _ => ⟨_, .bool b⟩
  | _, _, .int i t, _ => ⟨_, .int i t⟩
  | _, _, .str x t, _ => ⟨_, .str x t⟩
  | _, _, .gint i _, n => by simp [noTup] at n
  | _, _, .list hl r _, n => by
    obtain ⟨as, r⟩ := RdL.reads r (by simpa [noTup] using n)
    obtain ⟨o, k, ho, hc, _, hd⟩ := hl
    exact ⟨_, .list ho hc hd r⟩
theorem RdL.reads {h : Heap} {P : Addr → Prop} : ∀ {vs : List Value} {ds : List PyData}, RdL h P vs ds → noTupL ds = true → ∃ as, ReadsAll h vs ds as
  | _, _, .nil, _ => ⟨_, .nil⟩
  | _, _, .cons a b, n => by
    simp only [noTupL, Bool.and_eq_true] at n
    obtain ⟨as, x⟩ := Rd.reads a n.1
    obtain ⟨bs, y⟩ := RdL.reads b n.2
    exact ⟨_, .cons x y⟩
end
theorem noTupL_ints : ∀ ns : List Int, noTupL (ns.map .int) = true
  | [] => rfl
  | n :: ns => noTupL_ints ns
theorem noTupL_strs {α : Type} (f : α → Str) : ∀ ns : List α, noTupL (ns.map fun x => .str (f x)) = true
  | [] => rfl
  | n :: ns => noTupL_strs f ns

/-- a slot of the names' table -/
inductive Sl
  | free
  | val (d : PyData)
  | own (ds : List PyData)
  | glob (v : Value)

structure Cx where
  h₀ : Heap
  av : Addr → Prop

inductive Fl
  | fr | cl | mi | an
def Fl.P (c : Cx) (h : Heap) : Fl → Addr → Prop
  | .fr => fun a => h.get? a = none
  | .cl => c.av
  | .mi => fun a => c.h₀.get? a = none
  | .an => fun _ => True

def Loads (env : Env) (h : Heap) (x : Str) (v : Value) : Prop :=
  ∀ ⦃M : Model⦄ ⦃A : Around⦄ ⦃s : Shared⦄ ⦃Q : Value → Shared → Prop⦄ ⦃E : Value → Shared → Prop⦄, Ext h s.heap → Q v s → wpAny M A (loadName env x) Q E s
theorem Loads.keeps {env : Env} {h h' : Heap} {x : Str} {v : Value} (l : Loads env h x v) (e : Ext h h') : Loads env h' x v :=
  fun _ _ _ _ _ e' q => l (fun b o x => e' b o (e b o x)) q

def slotOk (c : Cx) (env : Env) (h : Heap) (x : Str) : Sl → Prop
  | .free => True
  | .val d => ∃ v, Loads env h x v ∧ Rd h c.av v d
  | .own ds => ∃ v, Loads env h x v ∧ Rd h (fun _ => True) v (.list ds) ∧ (ds.all atom = true → Rd h (fun a => c.h₀.get? a = none) v (.list ds))
  | .glob v => Loads env h x v
theorem slotOk.keeps {c : Cx} {env : Env} {h h' : Heap} {x : Str} {sl : Sl} (q : slotOk c env h x sl) (e : Ext h h') : slotOk c env h' x sl := by
  cases sl with
  | free => trivial
  | val d => obtain ⟨v, l, r⟩ := q; exact ⟨v, l.keeps e, r.keeps e⟩
  | own ds => obtain ⟨v, l, r, m⟩ := q; exact ⟨v, l.keeps e, r.keeps e, fun ha => (m ha).keeps e⟩
  | glob v => exact Loads.keeps q e

/-- the names of the top and the built-ins, as the program's defs see them -/
def Gl (env : Env) : Prop := env.globals = mainGlobals ∧ env.builtins = builtinsNs
structure ES (w : World) (c : Cx) (env : Env) (ρ : List (Str × Sl)) (h : Heap) : Prop where
  wd : Wd w h
  fav : ∀ a, h.get? a = none → c.av a
  fmi : ∀ a, h.get? a = none → c.h₀.get? a = none
  vars : ∀ x sl, (x, sl) ∈ ρ → slotOk c env h x sl
  nodbg : ∀ x ∈ ρ.map (·.1), (x == ("__debug__" : Str)) = false
  gl : Gl env
theorem ES.dbg {w : World} {c : Cx} {env : Env} {ρ : List (Str × Sl)} {h : Heap} (x : ES w c env ρ h) {y : Str} {sl : Sl} (m : (y, sl) ∈ ρ) : (y == ("__debug__" : Str)) = false := x.nodbg y (List.mem_map_of_mem (f := (·.1)) m)
theorem ES.keeps {w : World} {c : Cx} {env : Env} {ρ : List (Str × Sl)} {h h' : Heap} (x : ES w c env ρ h) (e : Ext h h') : ES w c env ρ h' :=
  ⟨x.wd.keeps e, fun a n => x.fav a (e.none n), fun a n => x.fmi a (e.none n), fun y sl m => (x.vars y sl m).keeps e, x.nodbg, x.gl⟩

structure Room (A : Around) (k : Nat) : Prop where
  hd : A.handled = none
  dep : A.depth + k < recursionLimit
  un : A.units + 16 * k + 100 < cLine
theorem Room.in1 {A : Around} {k : Nat} (r : Room A (k + 1)) : Room A.in1 k := ⟨r.hd, Nat.lt_of_le_of_lt (Nat.le_succ _) r.dep, by have := r.un; simp only [Around.in1_units]; omega⟩
theorem Room.le {A : Around} {k k' : Nat} (r : Room A k) (h : k' ≤ k) : Room A k' := ⟨r.hd, Nat.lt_of_le_of_lt (Nat.add_le_add_left h _) r.dep, by have := r.un; omega⟩
theorem Room.deeper {A : Around} {k : Nat} (r : Room A (k + 1)) (env : Env) : Room (A.deeper env) k :=
  ⟨r.hd, by have := r.dep; simp only [depth_deeper]; omega, by have := r.un; simp only [units_deeper]; omega⟩
theorem Room.u64 {A : Around} {k : Nat} (r : Room A k) : A.units + 64 < cLine := by have := r.un; omega

/-- what a tree of values yields: the datum d, of kind f, the heap grown -/
def Ys (w : World) (A : Around) (c : Cx) (t : Sem Value) (d : PyData) (f : Fl) (s : Shared) : Prop :=
  ∀ ⦃Q : Value → Shared → Prop⦄ ⦃E : Value → Shared → Prop⦄, (∀ v h' tk, Ext s.heap h' → 499 ≤ tk → Rd h' (f.P c s.heap) v d → Q v { s with heap := h', toks := tk }) →
    wpAny (model prg w) A t Q E s
theorem Ys.of {w : World} {A : Around} {c : Cx} {t : Sem Value} {d : PyData} {f : Fl} {s : Shared} (tb : TB s) (h : ∀ (Q : Value → Shared → Prop) (E : Value → Shared → Prop), (∀ v h' tk, Ext s.heap h' → Rd h' (f.P c s.heap) v d → Q v { s with heap := h', toks := tk }) → wpAny (model prg w) A t Q E s) : Ys w A c t d f s :=
  fun Q E q => asm tb (h _ E fun v h' tk e r b => q v h' tk e b r)

def Ev (w : World) (k : Nat) (ρ : List (Str × Sl)) (e : Expr) (d : PyData) (f : Fl) : Prop :=
  ∀ ⦃A : Around⦄ ⦃c : Cx⦄ ⦃env : Env⦄ ⦃s : Shared⦄, Room A k → ES w c env ρ s.heap → TB s → Ys w A c (eval e env) d f s

/-- the truth of a test -/
def Tr (w : World) (k : Nat) (ρ : List (Str × Sl)) (e : Expr) (b : Bool) : Prop :=
  ∀ ⦃A : Around⦄ ⦃c : Cx⦄ ⦃env : Env⦄ ⦃s : Shared⦄, Room A k → ES w c env ρ s.heap → TB s → ∀ ⦃Q : Bool → Shared → Prop⦄ ⦃E : Value → Shared → Prop⦄,
    (∀ h' tk, Ext s.heap h' → 499 ≤ tk → Q b { s with heap := h', toks := tk }) → wpAny (model prg w) A (isTrue e env (eval e env)) Q E s

/-- an operation on values -/
def Op2 (w : World) (k : Nat) (op : Value → Value → Sem Value) (d1 d2 : PyData) (d : PyData) : Prop :=
  ∀ ⦃A : Around⦄ ⦃s : Shared⦄ ⦃P1 P2 : Addr → Prop⦄ ⦃v1 v2 : Value⦄, Room A k → Wd w s.heap → Rd s.heap P1 v1 d1 → Rd s.heap P2 v2 d2 →
    ∀ ⦃Q : Value → Shared → Prop⦄ ⦃E : Value → Shared → Prop⦄, (∀ v h' tk, Ext s.heap h' → Rd h' (fun a => s.heap.get? a = none) v d → Q v { s with heap := h', toks := tk }) →
      wpAny (model prg w) A (op v1 v2) Q E s
def Op1 (w : World) (k : Nat) (op : Value → Sem Value) (d1 : PyData) (d : PyData) : Prop :=
  ∀ ⦃A : Around⦄ ⦃s : Shared⦄ ⦃P1 : Addr → Prop⦄ ⦃v1 : Value⦄, Room A k → Wd w s.heap → Rd s.heap P1 v1 d1 →
    ∀ ⦃Q : Value → Shared → Prop⦄ ⦃E : Value → Shared → Prop⦄, (∀ v h' tk, Ext s.heap h' → Rd h' (fun a => s.heap.get? a = none) v d → Q v { s with heap := h', toks := tk }) →
      wpAny (model prg w) A (op v1) Q E s

theorem Ext.rfl {h : Heap} : Ext h h := fun _ _ e => e
theorem Ext.trans {h h' h'' : Heap} (a : Ext h h') (b : Ext h' h'') : Ext h h'' := fun _ _ e => b _ _ (a _ _ e)

section
variable {w : World} {k : Nat} {ρ : List (Str × Sl)} {e : Expr} {d : PyData} {f : Fl}

theorem Fl.fr_mono {c : Cx} {h h' : Heap} (e : Ext h h') : ∀ a, Fl.P c h' .fr a → Fl.P c h .fr a := fun _ n => e.none n

theorem Ev.toCl (h : Ev w k ρ e d .fr) : Ev w k ρ e d .cl := by
  intro A c env s r x tb Q E q
  exact h r x tb fun v h' tk e b rd => q v h' tk e b (rd.mono fun a n => x.fav a n)
theorem Ev.toMi (h : Ev w k ρ e d .fr) : Ev w k ρ e d .mi := by
  intro A c env s r x tb Q E q
  exact h r x tb fun v h' tk e b rd => q v h' tk e b (rd.mono fun a n => x.fmi a n)
theorem Ev.toAn (h : Ev w k ρ e d f) : Ev w k ρ e d .an := by
  intro A c env s r x tb Q E q
  exact h r x tb fun v h' tk e b rd => q v h' tk e b (rd.mono fun _ _ => trivial)
theorem Ev.ofAtom (ha : atom d = true) (h : Ev w k ρ e d f) : Ev w k ρ e d .fr := by
  intro A c env s r x tb Q E q
  exact h r x tb fun v h' tk e b rd => q v h' tk e b (rd.of_atom ha)

theorem Ev.int {i : Int} {n pos} : Ev w k ρ (.Constant (.int i) n pos) (.int i) .fr := by
  intro A c env s _ _ tb
  exact Ys.of tb fun Q E q => wpAny_Constant_int (q _ _ _ Ext.rfl (.int i _))
theorem Ev.intG {i : Int} {n pos} : Ev w k ρ (.Constant (.int i) n pos) (gI false i) .fr := by
  intro A c env s _ _ tb
  exact Ys.of tb fun Q E q => wpAny_Constant_int (q _ _ _ Ext.rfl (.gint i (by simpa [Gr] using tb)))
/-- the grades taken off -/
theorem Ev.plain (h : Ev w k ρ e d f) : Ev w k ρ e (bare d) f := by
  intro A c env s r x tb Q E q
  exact h r x tb fun v h' tk e b rd => q v h' tk e b rd.bare
theorem Ev.bool {b : Bool} {n pos} : Ev w k ρ (.Constant (.bool b) n pos) (.bool b) .fr := by
  intro A c env s _ _ tb
  exact Ys.of tb fun Q E q => Constant_bool (q _ s.heap s.toks Ext.rfl (.bool b))
theorem Ev.str {x : Str} {n pos} : Ev w k ρ (.Constant (.str x) n pos) (.str x) .fr := by
  intro A c env s _ _ tb
  refine Ys.of tb fun Q E q => ?_
  rw [eval_Constant]
  exact wpAny_mkText (q _ _ _ Ext.rfl (.str x _))

theorem name_of {A : Around} {env : Env} {s : Shared} {x : Str} {pos : Pos} {v : Value} {Q : Value → Shared → Prop} {E : Value → Shared → Prop} (l : Loads env s.heap x v) (q : Q v s)
    (hd : (x == ("__debug__" : Str)) = false) : wpAny (model prg w) A (eval (.Name x pos) env) Q E s :=
  wpAny_Name (l Ext.rfl q) hd
theorem Ev.name {x : Str} {pos} (hm : (x, Sl.val d) ∈ ρ) : Ev w k ρ (.Name x pos) d .cl := by
  intro A c env s _ es tb Q E q
  obtain ⟨v, l, r⟩ := es.vars _ _ hm
  exact name_of l (q v s.heap s.toks Ext.rfl tb r) (es.dbg hm)
theorem Ev.nameA {x : Str} {pos} (hm : (x, Sl.val d) ∈ ρ) (ha : atom d = true) : Ev w k ρ (.Name x pos) d .fr := Ev.ofAtom ha (Ev.name hm)
theorem Ev.nameO {x : Str} {pos} {ds : List PyData} (hm : (x, Sl.own ds) ∈ ρ) : Ev w k ρ (.Name x pos) (.list ds) .an := by
  intro A c env s _ es tb Q E q
  obtain ⟨v, l, r, _⟩ := es.vars _ _ hm
  exact name_of l (q v s.heap s.toks Ext.rfl tb r) (es.dbg hm)
theorem Ev.nameM {x : Str} {pos} {ds : List PyData} (hm : (x, Sl.own ds) ∈ ρ) (ha : ds.all atom = true) : Ev w k ρ (.Name x pos) (.list ds) .mi := by
  intro A c env s _ es tb Q E q
  obtain ⟨v, l, _, r⟩ := es.vars _ _ hm
  exact name_of l (q v s.heap s.toks Ext.rfl tb (r ha)) (es.dbg hm)

theorem Ev.bin {l r : Expr} {op : Operator} {pos : Pos} {d1 d2 : PyData} {f1 f2 : Fl} (h1 : Ev w k ρ l d1 f1) (h2 : Ev w k ρ r d2 f2) (o : Op2 w k (binaryOp op) d1 d2 d) : Ev w k ρ (.BinOp l op r pos) d .fr := by
    intro A c env s rm es tb Q E q
    refine wpAny_BinOp (h1 rm es tb fun v1 h' tk e1 b1 r1 => ?_)
    refine h2 (s := { s with heap := h', toks := tk }) rm (es.keeps e1) b1 fun v2 h'' tk' e2 b2 r2 => ?_
    refine asm (s := { s with heap := h'', toks := tk' }) b2 (o (s := { s with heap := h'', toks := tk' }) rm (es.wd.keeps (e1.trans e2)) (r1.keeps e2) r2 fun v h3 tk3 e3 r3 b3 => ?_)
    exact q v h3 tk3 ((e1.trans e2).trans e3) b3 (r3.mono fun a n => (e1.trans e2).none n)
theorem Ev.cmp {l r : Expr} {op : CmpOp} {pos : Pos} {d1 d2 : PyData} {f1 f2 : Fl} (h1 : Ev w k ρ l d1 f1) (h2 : Ev w k ρ r d2 f2) (o : Op2 w k (compareOp op) d1 d2 d) (hm : behindInMarks op r = false) : Ev w k ρ (.Compare l [op] [r] pos) d .fr := by
    intro A c env s rm es tb Q E q
    refine wpAny_Compare1 (h1 rm es tb fun v1 h' tk e1 b1 r1 => ?_) hm
    refine h2 (s := { s with heap := h', toks := tk }) rm (es.keeps e1) b1 fun v2 h'' tk' e2 b2 r2 => ?_
    refine asm (s := { s with heap := h'', toks := tk' }) b2 (o (s := { s with heap := h'', toks := tk' }) rm (es.wd.keeps (e1.trans e2)) (r1.keeps e2) r2 fun v h3 tk3 e3 r3 b3 => ?_)
    exact q v h3 tk3 ((e1.trans e2).trans e3) b3 (r3.mono fun a n => (e1.trans e2).none n)
theorem Ev.un {x : Expr} {op : UnaryOp} {pos : Pos} {d1 : PyData} {f1 : Fl} (h1 : Ev w k ρ x d1 f1) (o : Op1 w k (unaryOp op) d1 d) : Ev w k ρ (.UnaryOp op x pos) d .fr := by
    intro A c env s rm es tb Q E q
    refine UnaryOp_ (h1 rm es tb fun v1 h' tk e1 b1 r1 => ?_)
    refine asm (s := { s with heap := h', toks := tk }) b1 (o (s := { s with heap := h', toks := tk }) rm (es.wd.keeps e1) r1 fun v h3 tk3 e3 r3 b3 => ?_)
    exact q v h3 tk3 (e1.trans e3) b3 (r3.mono fun a n => e1.none n)

theorem Tr.cmp {l r : Expr} {op : CmpOp} {pos : Pos} {d1 d2 : PyData} {f1 f2 : Fl} {b : Bool} (h1 : Ev w k ρ l d1 f1) (h2 : Ev w k ρ r d2 f2) (o : Op2 w k (compareOp op) d1 d2 (.bool b)) (hm : behindInMarks op r = false) : Tr w k ρ (.Compare l [op] [r] pos) b := by
    intro A c env s rm es tb Q E q
    refine wpAny_isTrue_Compare1 (h1 rm es tb fun v1 h' tk e1 b1 r1 => ?_) hm
    refine h2 (s := { s with heap := h', toks := tk }) rm (es.keeps e1) b1 fun v2 h'' tk' e2 b2 r2 => ?_
    refine asm (s := { s with heap := h'', toks := tk' }) b2 (o (s := { s with heap := h'', toks := tk' }) rm (es.wd.keeps (e1.trans e2)) (r1.keeps e2) r2 fun v h3 tk3 e3 r3 b3 => ?_)
    rw [r3.bool_inv]
    exact wpAny_truthy_bool (q h3 tk3 ((e1.trans e2).trans e3) b3)
theorem Tr.plain {e : Expr} {b : Bool} (h : Ev w k ρ e (.bool b) f) (he : ∀ env whole, isTrue e env whole = (do let v ← whole; standAt e.pos; holding [v] (truthy v))) : Tr w k ρ e b := by
    intro A c env s rm es tb Q E q
    refine isTrue_plain (h rm es tb fun v h' tk e1 b1 r1 => ?_) (he _ _)
    rw [r1.bool_inv]
    exact wpAny_truthy_bool (q h' tk e1 b1)
theorem Tr.or_nil {pos : Pos} : Tr w k ρ (.BoolOp .Or [] pos) false := by
  intro A c env s rm es tb Q E q
  exact isTrue_or_nil (q s.heap s.toks Ext.rfl tb)
theorem Tr.or {x : Expr} {rest : List Expr} {pos : Pos} {b1 b2 : Bool} (h1 : Tr w k ρ x b1) (h2 : Tr w k ρ (.BoolOp .Or rest pos) b2) : Tr w k ρ (.BoolOp .Or (x :: rest) pos) (b1 || b2) := by
    intro A c env s rm es tb Q E q
    refine isTrue_or (h1 rm es tb fun h' tk e1 t1 => ?_)
    cases b1 with
    | true => exact q h' tk e1 t1
    | false => exact h2 (s := { s with heap := h', toks := tk }) rm (es.keeps e1) t1 fun h'' tk' e2 t2 => q h'' tk' (e1.trans e2) t2

/-- the choice of two data by a truth, told below the head where both have the same head -/
def sel (b : Bool) : PyData → PyData → PyData
  | .int i, .int j => .int (bif b then i else j)
  | .str x, .str y => .str (bif b then x else y)
  | .list x, .list y => .list (bif b then x else y)
  | x, y => bif b then x else y
theorem sel_true (x y : PyData) : sel true x y = x := by cases x <;> cases y <;> rfl
theorem sel_false (x y : PyData) : sel false x y = y := by cases x <;> cases y <;> rfl

theorem Ev.ifExp {t x y : Expr} {pos : Pos} {b : Bool} {d1 d2 : PyData} {f1 f2 : Fl} (ht : Tr w k ρ t b) (h1 : Ev w k ρ x d1 f1) (h2 : Ev w k ρ y d2 f2) : Ev w k ρ (.IfExp t x y pos) (sel b d1 d2) .an := by
    intro A c env s rm es tb Q E q
    refine IfExp_ (ht rm es tb fun h' tk e1 t1 => ?_)
    cases b with
    | true =>
      refine h1 (s := { s with heap := h', toks := tk }) rm (es.keeps e1) t1 fun v h'' tk' e2 t2 r => ?_
      exact q v h'' tk' (e1.trans e2) t2 (by rw [sel_true]; exact r.mono fun _ _ => trivial)
    | false =>
      refine h2 (s := { s with heap := h', toks := tk }) rm (es.keeps e1) t1 fun v h'' tk' e2 t2 r => ?_
      exact q v h'' tk' (e1.trans e2) t2 (by rw [sel_false]; exact r.mono fun _ _ => trivial)
theorem Ev.ifT {t x y : Expr} {pos : Pos} {d1 : PyData} {f1 : Fl} (ht : Tr w k ρ t true) (h1 : Ev w k ρ x d1 f1) : Ev w k ρ (.IfExp t x y pos) d1 .an := by
    intro A c env s rm es tb Q E q
    refine IfExp_ (ht rm es tb fun h' tk e1 t1 => ?_)
    refine h1 (s := { s with heap := h', toks := tk }) rm (es.keeps e1) t1 fun v h'' tk' e2 t2 r => ?_
    exact q v h'' tk' (e1.trans e2) t2 (r.mono fun _ _ => trivial)
theorem Ev.ifF {t x y : Expr} {pos : Pos} {d1 : PyData} {f1 : Fl} (ht : Tr w k ρ t false) (h1 : Ev w k ρ y d1 f1) : Ev w k ρ (.IfExp t x y pos) d1 .an := by
    intro A c env s rm es tb Q E q
    refine IfExp_ (ht rm es tb fun h' tk e1 t1 => ?_)
    refine h1 (s := { s with heap := h', toks := tk }) rm (es.keeps e1) t1 fun v h'' tk' e2 t2 r => ?_
    exact q v h'' tk' (e1.trans e2) t2 (r.mono fun _ _ => trivial)
end
end PartL1
section PartL2
section
variable {w : World} {k : Nat} {i j : Int} {x y : Str} {b c : Bool}

theorem op_add : Op2 w k (binaryOp .Add) (.int i) (.int j) (.int (i + j)) := by
  intro A s P1 P2 v1 v2 r wd r1 r2 Q E q
  obtain ⟨t, rfl⟩ := r1.int_inv
  obtain ⟨u, rfl⟩ := r2.int_inv
  exact PyProof.Rows.add_int (q _ s.heap _ Ext.rfl (.int _ _))
theorem op_iadd : Op2 w k (inplaceOp .Add) (.int i) (.int j) (.int (i + j)) := by
  intro A s P1 P2 v1 v2 r wd r1 r2 Q E q
  obtain ⟨t, rfl⟩ := r1.int_inv
  obtain ⟨u, rfl⟩ := r2.int_inv
  exact PyProof.Rows.iadd_int (q _ s.heap _ Ext.rfl (.int _ _))
theorem op_sub : Op2 w k (binaryOp .Sub) (.int i) (.int j) (.int (i - j)) := by
  intro A s P1 P2 v1 v2 r wd r1 r2 Q E q
  obtain ⟨t, rfl⟩ := r1.int_inv
  obtain ⟨u, rfl⟩ := r2.int_inv
  exact PyProof.Rows.sub_int (q _ s.heap _ Ext.rfl (.int _ _))
theorem bits64 {a : Int} (h : a.natAbs < 2 ^ 63) : Builtin.Int.intBits a ≤ 64 := by
  unfold Builtin.Int.intBits
  split
  · omega
  · have : a.natAbs.log2 < 63 := by
      rw [Nat.log2_lt (by simp_all)]
      exact h
    omega
theorem op_mul (h : j.natAbs < 2 ^ 63) : Op2 w k (binaryOp .Mult) (.int i) (.int j) (.int (i * j)) := by
  intro A s P1 P2 v1 v2 r wd r1 r2 Q E q
  obtain ⟨t, rfl⟩ := r1.int_inv
  obtain ⟨u, rfl⟩ := r2.int_inv
  exact PyProof.Rows.mul_int (q _ s.heap _ Ext.rfl (.int _ _)) (IntMulOk.of_right (bits64 h))
theorem op_imul (h : j.natAbs < 2 ^ 63) : Op2 w k (inplaceOp .Mult) (.int i) (.int j) (.int (i * j)) := by
  intro A s P1 P2 v1 v2 r wd r1 r2 Q E q
  obtain ⟨t, rfl⟩ := r1.int_inv
  obtain ⟨u, rfl⟩ := r2.int_inv
  exact PyProof.Rows.imul_int (q _ s.heap _ Ext.rfl (.int _ _)) (IntMulOk.of_right (bits64 h))
theorem op_floordiv (h : 0 < j) (h2 : j < 1073741824) : Op2 w k (binaryOp .FloorDiv) (.int i) (.int j) (.int (i / j)) := by
  intro A s P1 P2 v1 v2 r wd r1 r2 Q E q
  obtain ⟨t, rfl⟩ := r1.int_inv
  obtain ⟨u, rfl⟩ := r2.int_inv
  refine PyProof.Rows.floordiv_int (by omega) ?_ (.inl (PyProof.noPylong_small (by omega)))
  rw [Int.fdiv_eq_ediv_of_nonneg _ (by omega)]
  exact q _ s.heap _ Ext.rfl (.int _ _)
theorem op_mod (h : 0 < j) : Op2 w k (binaryOp .Mod) (.int i) (.int j) (.int (i % j)) := by
  intro A s P1 P2 v1 v2 r wd r1 r2 Q E q
  obtain ⟨t, rfl⟩ := r1.int_inv
  obtain ⟨u, rfl⟩ := r2.int_inv
  refine PyProof.Rows.mod_int' (by omega) ?_
  rw [Int.fmod_eq_emod_of_nonneg _ (by omega)]
  exact q _ s.heap _ Ext.rfl (.int _ _)
theorem op_pow (h : 0 ≤ j) (h2 : j ≤ 1000000) (h3 : i.natAbs < 2 ^ 64) : Op2 w k (binaryOp .Pow) (.int i) (.int j) (.int (i ^ j.toNat)) := by
  intro A s P1 P2 v1 v2 r wd r1 r2 Q E q
  obtain ⟨t, rfl⟩ := r1.int_inv
  obtain ⟨u, rfl⟩ := r2.int_inv
  exact pow_int_small h h2 h3 (q _ s.heap _ Ext.rfl (.int _ _))
theorem op_and : Op2 w k (binaryOp .BitAnd) (.int i) (.int j) (.int (Builtin.bitAnd i j)) := by
  intro A s P1 P2 v1 v2 r wd r1 r2 Q E q
  obtain ⟨t, rfl⟩ := r1.int_inv
  obtain ⟨u, rfl⟩ := r2.int_inv
  exact PyProof.Rows.and_int (q _ s.heap _ Ext.rfl (.int _ _))
theorem op_rshift (h : 0 ≤ j) : Op2 w k (binaryOp .RShift) (.int i) (.int j) (.int (i / 2 ^ j.toNat)) := by
  intro A s P1 P2 v1 v2 r wd r1 r2 Q E q
  obtain ⟨t, rfl⟩ := r1.int_inv
  obtain ⟨u, rfl⟩ := r2.int_inv
  refine PyProof.Rows.rshift_int h ?_
  rw [Int.fdiv_eq_ediv_of_nonneg _ (by exact Int.le_of_lt (Int.pow_pos (by omega)))]
  exact q _ s.heap _ Ext.rfl (.int _ _)
theorem op_neg : Op1 w k (unaryOp .USub) (.int i) (.int (-i)) := by
  intro A s P1 v1 r wd r1 Q E q
  obtain ⟨t, rfl⟩ := r1.int_inv
  exact PyProof.Rows.neg_int (q _ s.heap _ Ext.rfl (.int _ _))
theorem op_eqI : Op2 w k (compareOp .Eq) (.int i) (.int j) (.bool (i == j)) := by
  intro A s P1 P2 v1 v2 r wd r1 r2 Q E q
  obtain ⟨t, rfl⟩ := r1.int_inv
  obtain ⟨u, rfl⟩ := r2.int_inv
  exact PyProof.Rows.eq_int (q _ s.heap s.toks Ext.rfl (.bool _))
theorem op_neI : Op2 w k (compareOp .NotEq) (.int i) (.int j) (.bool (i != j)) := by
  intro A s P1 P2 v1 v2 r wd r1 r2 Q E q
  obtain ⟨t, rfl⟩ := r1.int_inv
  obtain ⟨u, rfl⟩ := r2.int_inv
  exact PyProof.Rows.ne_int (q _ s.heap s.toks Ext.rfl (.bool _))
theorem op_ltI : Op2 w k (compareOp .Lt) (.int i) (.int j) (.bool (decide (i < j))) := by
  intro A s P1 P2 v1 v2 r wd r1 r2 Q E q
  obtain ⟨t, rfl⟩ := r1.int_inv
  obtain ⟨u, rfl⟩ := r2.int_inv
  exact PyProof.Rows.lt_int (q _ s.heap s.toks Ext.rfl (.bool _))
theorem op_isB : Op2 w k (compareOp .Is) (.bool b) (.bool c) (.bool (b == c)) := by
  intro A s P1 P2 v1 v2 r wd r1 r2 Q E q
  rw [r1.bool_inv, r2.bool_inv]
  exact PyProof.Rows.is_bool (q _ s.heap s.toks Ext.rfl (.bool _))
theorem op_isntB : Op2 w k (compareOp .IsNot) (.bool b) (.bool c) (.bool (b != c)) := by
  intro A s P1 P2 v1 v2 r wd r1 r2 Q E q
  rw [r1.bool_inv, r2.bool_inv]
  exact PyProof.Rows.isnot_bool (q _ s.heap s.toks Ext.rfl (.bool _))
theorem op_addS (h : x.length + y.length ≤ 16777216) : Op2 w k (binaryOp .Add) (.str x) (.str y) (.str (x ++ y)) := by
  intro A s P1 P2 v1 v2 r wd r1 r2 Q E q
  obtain ⟨t, rfl⟩ := r1.str_inv
  obtain ⟨u, rfl⟩ := r2.str_inv
  exact PyProof.Rows.add_str (fun t' tk => q _ s.heap _ Ext.rfl (.str _ _)) (by rw [sizeLine_eq]; exact h)
theorem op_eqS : Op2 w k (compareOp .Eq) (.str x) (.str y) (.bool (x == y)) := by
  intro A s P1 P2 v1 v2 r wd r1 r2 Q E q
  obtain ⟨t, rfl⟩ := r1.str_inv
  obtain ⟨u, rfl⟩ := r2.str_inv
  exact PyProof.Rows.eq_str (q _ s.heap s.toks Ext.rfl (.bool _))
theorem op_neS : Op2 w k (compareOp .NotEq) (.str x) (.str y) (.bool (x != y)) := by
  intro A s P1 P2 v1 v2 r wd r1 r2 Q E q
  obtain ⟨t, rfl⟩ := r1.str_inv
  obtain ⟨u, rfl⟩ := r2.str_inv
  exact PyProof.Rows.ne_str (q _ s.heap s.toks Ext.rfl (.bool _))
theorem op_mulS (h1 : x.length ≤ 16) (h2 : -2 ^ 63 ≤ i) (h3 : i ≤ 1048576) : Op2 w k (binaryOp .Mult) (.str x) (.int i) (.str (Txt.mul x i)) := by
  intro A s P1 P2 v1 v2 r wd r1 r2 Q E q
  obtain ⟨t, rfl⟩ := r1.str_inv
  obtain ⟨u, rfl⟩ := r2.int_inv
  exact KXi.mul rfl h1 h2 h3 fun t' tk _ _ => q _ s.heap _ Ext.rfl (.str _ _)

/-- lists -/
theorem ext_push {h : Heap} {o : Obj} : Ext h (h.push o) := fun _ _ e => Heap.get?_push_of_some _ e
theorem push_free {h : Heap} : h.get? h.objs.size = none := by
  cases q : h.get? h.objs.size with
  | none => rfl
  | some o => exact absurd (Heap.lt_size q) (Nat.lt_irrefl _)
theorem isList_push {h : Heap} {vs : Array Value} {n : Nat} : PlainL (h.push { cls := .type "list", data := .seq vs n }) h.objs.size vs :=
  ⟨_, n, Heap.get?_push_size _ rfl, rfl, rfl, rfl⟩

theorem op_addL {ds es : List PyData} (hl : ds.length + es.length ≤ 16777216) (hd : ds.all atom = true) (he : es.all atom = true) : Op2 w k (binaryOp .Add) (.list ds) (.list es) (.list (ds ++ es)) := by
  intro A s P1 P2 v1 v2 r wd r1 r2 Q E q
  obtain ⟨a, vs, rfl, ha, ra, _⟩ := r1.list_inv
  obtain ⟨b, us, rfl, hb, rb, _⟩ := r2.list_inv
  obtain ⟨⟨cls, dd, data, sl⟩, n, ho, hc, _, hd'⟩ := id ha
  obtain ⟨⟨cls2, dd2, data2, sl2⟩, n2, ho2, hc2, _, hd2⟩ := id hb
  simp only at hc hd' hc2 hd2
  subst hc hd' hc2 hd2
  have hsz : vs.size + us.size ≤ sizeLine := by
    rw [sizeLine_eq, ← Array.length_toList, ← Array.length_toList, ra.length, rb.length]; exact hl
  refine concat_meets ⟨_, ho, rfl⟩ ⟨_, ho2, rfl⟩ noFill_list_add seq_list_add PySem.F.slot_list_add PySem.F.entry_list_add (PySem.F.args_list_add_2 _ _) (list_addW a b vs us n n2 dd dd2 sl sl2 hsz) ⟨ho, ho2, ?_⟩
  refine q _ _ s.toks ext_push (.list isList_push ?_ push_free)
  have := (RdL.of_atoms_heap (h' := s.heap.push { cls := .type "list", data := .seq (vs ++ us) }) (P' := fun a => s.heap.get? a = none) hd ra).append (RdL.of_atoms_heap he rb)
  simpa using this

theorem op_eqL {ns ms : List Int} : Op2 w k (compareOp .Eq) (.list (ns.map .int)) (.list (ms.map .int)) (.bool (decide (ns = ms))) := by
  intro A s P1 P2 v1 v2 r wd r1 r2 Q E q
  obtain ⟨as, r1⟩ := r1.reads (by simpa only [noTup] using noTupL_ints ns)
  obtain ⟨bs, r2⟩ := r2.reads (by simpa only [noTup] using noTupL_ints ms)
  exact eq_dataH_same r1 r2 (shaped_ints ns) (shaped_ints ms) r.u64 (by simp only [SeqAt.noMix]; exact noMix_ints ns ms) (by simp only [PySem.Spec.same]; rw [same_ints]; exact q _ s.heap s.toks Ext.rfl (.bool _))
end
end PartL2
section PartL3
/-- a text by the list of its signs -/
def S (l : List Nat) : Str := ⟨l.toArray⟩
theorem S_len (l : List Nat) : (S l).length = l.length := by simp [S, Str.length]
theorem S_app (a b : List Nat) : S a ++ S b = S (a ++ b) := by
  show Str.append _ _ = _
  simp [Str.append, S]
theorem S_inj {a b : List Nat} : (S a == S b) = (a == b) := by
  rw [Bool.eq_iff_iff, beq_iff_eq, beq_iff_eq]
  constructor
  · intro h; have := congrArg (fun s => s.cps.toList) h; simpa [S] using this
  · intro h; rw [h]
theorem S_ne {a b : List Nat} : (S a != S b) = (a != b) := by simp only [bne, S_inj]

theorem slice_to (l : List Nat) (b : Nat) : Txt.slice (S l) none (some (b : Int)) = S (l.take b) := by
  have hl : (S l).cps.toList = l := by simp [S]
  have key : ((Builtin.Str.strSliceIndices none (some (b : Int)) 1 (S l).length).filterMap ((S l).cps[·]?)) = l.take b := by
    by_cases h : b ≤ l.length
    · rw [StrLaws.sliceIdx_none_lo]
      have := StrLaws.sliced_plain (S l) (a := 0) (b := b) (Nat.zero_le _) (by rw [S_len]; exact h)
      simpa [hl] using this
    · rw [sliceIdx_hi_beyond _ (by rw [S_len]; omega), StrLaws.sliceIdx_none_lo]
      have := StrLaws.sliced_plain (S l) (a := 0) (b := (S l).length) (Nat.zero_le _) (Nat.le_refl _)
      simp only [hl, Nat.sub_zero, List.drop_zero] at this
      rw [show ((0 : Nat) : Int) = 0 from rfl] at this
      rw [this, S_len, List.take_of_length_le (Nat.le_refl _), List.take_of_length_le (by omega)]
  unfold Txt.slice
  rw [key]
  split
  · rename_i h
    simp only [beq_self_eq_true, Bool.true_and, beq_iff_eq] at h
    have h2 := congrArg List.length key
    have h3 := List.length_filterMap_le ((S l).cps[·]?) (Builtin.Str.strSliceIndices none (some (b : Int)) 1 (S l).length)
    have h5 : ∀ {α β : Type} (f : α → Option β) (xs : List α), True := fun _ _ => trivial
    by_cases hb : b < l.length
    · exfalso
      rw [StrLaws.sliceIdx_none_lo, show (0 : Int) = ((0 : Nat) : Int) from rfl, StrLaws.strSliceIndices_plain (Nat.zero_le _) (by rw [S_len]; omega)] at h
      simp [S_len] at h
      omega
    · rw [List.take_of_length_le (by omega)]
  · rfl
theorem slice_from (l : List Nat) (a : Nat) : Txt.slice (S l) (some (a : Int)) none = S (l.drop a) := by
  have hl : (S l).cps.toList = l := by simp [S]
  have key : ((Builtin.Str.strSliceIndices (some (a : Int)) none 1 (S l).length).filterMap ((S l).cps[·]?)) = l.drop a := by
    rw [StrLaws.sliceIdx_none_hi]
    by_cases h : a ≤ l.length
    · have := StrLaws.sliced_plain (S l) (a := a) (b := (S l).length) (by rw [S_len]; exact h) (Nat.le_refl _)
      rw [this, hl, S_len, List.take_of_length_le (by simp)]
    · rw [← StrLaws.sliceIdx_none_hi, sliceIdx_lo_beyond _ (by rw [S_len]; omega), StrLaws.sliceIdx_none_hi]
      have := StrLaws.sliced_plain (S l) (a := (S l).length) (b := (S l).length) (Nat.le_refl _) (Nat.le_refl _)
      rw [this, hl, S_len, List.drop_eq_nil_of_le (by omega : l.length ≤ a)]
      simp
  unfold Txt.slice
  rw [key]
  split
  · rename_i h
    simp only [beq_self_eq_true, Bool.true_and, beq_iff_eq] at h
    by_cases ha : a = 0
    · subst ha; simp
    · by_cases hnil : l = []
      · subst hnil; simp
      exfalso
      rw [StrLaws.sliceIdx_none_hi] at h
      by_cases hb : a ≤ l.length
      · rw [StrLaws.strSliceIndices_plain (by rw [S_len]; omega) (Nat.le_refl _)] at h
        simp [S_len] at h
        cases l with
        | nil => simp at hb; omega
        | cons x l => simp at h; omega
      · rw [← StrLaws.sliceIdx_none_hi, sliceIdx_lo_beyond _ (by rw [S_len]; omega), StrLaws.sliceIdx_none_hi, StrLaws.strSliceIndices_plain (Nat.le_refl _) (Nat.le_refl _)] at h
        simp [S_len] at h
        exact hnil (List.length_eq_zero_iff.mp h.symm)
  · rfl

section
variable {w : World} {k : Nat} {ρ : List (Str × Sl)} {e : Expr} {d : PyData} {f g : Fl}

theorem Ev.item {value idx : Expr} {pos : Pos} {ds : List PyData} {i : Int} (hv : Ev w k ρ value (.list ds) f) (hi : Ev w k ρ idx (.int i) g) (h0 : 0 ≤ i) (h1 : i < 2 ^ 63) (hd : ds[i.toNat]? = some d)
    (hs : ∀ o i, subscripted idx false o i = operate [o, i] (getItem o i)) : Ev w k ρ (.Subscript value idx pos) d f := by
  intro A c env s rm es tb Q E q
  refine Subscript_ (hv rm es tb fun v h' tk e1 b1 r1 => ?_)
  refine hi (s := { s with heap := h', toks := tk }) rm (es.keeps e1) b1 fun u h'' tk' e2 b2 r2 => ?_
  obtain ⟨a, vs, rfl, hl', ra, _⟩ := (r1.keeps e2).list_inv
  have hl := hl'.isList
  obtain ⟨t, rfl⟩ := r2.int_inv
  obtain ⟨x, hx, rx⟩ := ra.get hd
  exact tail_any (T := "list") hl.typeIs slot_list_getitem.lookup (wpAny_getItem_list hl h0 h1 (by simpa using hx) (q x h'' tk' (e1.trans e2) b2 rx)) (hs _ _)
theorem Ev.itemA {value idx : Expr} {pos : Pos} {ds : List PyData} {i : Int} (hv : Ev w k ρ value (.list ds) f) (hi : Ev w k ρ idx (.int i) g) (h0 : 0 ≤ i) (h1 : i < 2 ^ 63) (hd : ds[i.toNat]? = some d) (ha : atom d = true)
    (hs : ∀ o i, subscripted idx false o i = operate [o, i] (getItem o i)) : Ev w k ρ (.Subscript value idx pos) d .fr := Ev.ofAtom ha (Ev.item hv hi h0 h1 hd hs)
theorem Ev.itemLast {value idx : Expr} {pos : Pos} {ds : List PyData} {i : Int} (hv : Ev w k ρ value (.list ds) f) (hi : Ev w k ρ idx (.int i) g) (h0 : i = -1) (hd : ds.getLast? = some d)
    (hs : ∀ o i, subscripted idx false o i = operate [o, i] (getItem o i)) : Ev w k ρ (.Subscript value idx pos) d f := by
  intro A c env s rm es tb Q E q
  subst h0
  refine Subscript_ (hv rm es tb fun v h' tk e1 b1 r1 => ?_)
  refine hi (s := { s with heap := h', toks := tk }) rm (es.keeps e1) b1 fun u h'' tk' e2 b2 r2 => ?_
  obtain ⟨a, vs, rfl, hl', ra, _⟩ := (r1.keeps e2).list_inv
  have hl := hl'.isList
  obtain ⟨t, rfl⟩ := r2.int_inv
  have hlen := ra.length
  rw [List.getLast?_eq_getElem?] at hd
  obtain ⟨x, hx, rx⟩ := ra.get hd
  have hpos : 0 < ds.length := by
    cases ds with
    | nil => simp at hd
    | cons _ _ => simp
  rw [Array.length_toList] at hlen
  refine tail_any (T := "list") hl.typeIs slot_list_getitem.lookup (wpAny_getItem_list_neg hl (by decide) (by omega) (by decide) (x := x) ?_ (q x h'' tk' (e1.trans e2) b2 rx)) (hs _ _)
  rw [show (-1 + (vs.size : Int)).toNat = ds.length - 1 by omega]
  simpa using hx

theorem Ev.sliceFrom {value lo : Expr} {p pos : Pos} {ds : List PyData} {i : Int} (hv : Ev w k ρ value (.list ds) f) (hi : Ev w k ρ lo (.int i) g) (h0 : 0 ≤ i) (ha : ds.all atom = true) (hz : ds.length ≤ 16777216)
    (ht : ∀ o r, letTemporaryGo value o r = pure ()) : Ev w k ρ (.Subscript value (.Slice (some lo) none none p) pos) (.list (ds.drop i.toNat)) .fr := by
  intro A c env s rm es tb Q E q
  refine wpAny_Subscript_list_slice (hv rm es tb fun v h' tk e1 b1 r1 => ?_) ht
  rw [evalPart_some]
  refine hi (s := { s with heap := h', toks := tk }) rm (es.keeps e1) b1 fun u h'' tk' e2 b2 r2 => ?_
  rw [evalPart_none]
  obtain ⟨a, vs, rfl, hl', ra, _⟩ := (r1.keeps e2).list_inv
  have hl := hl'.isList
  obtain ⟨t, rfl⟩ := r2.int_inv
  obtain ⟨n, rfl⟩ : ∃ n : Nat, i = n := ⟨i.toNat, by omega⟩
  refine wpAny_pure ⟨a, vs, some (n : Int), none, rfl, hl, ?_, .int _ _, .none, ?_⟩
  · rw [sizeLine_eq, ← Array.length_toList, ra.length]; exact hz
  · rw [slicePick_from']
    refine q _ _ tk' ((e1.trans e2).trans (Ext.trans ext_push ext_push)) b2 (.list (vs := (vs.toList.drop n).toArray) ?_ ?_ ?_)
    · have := isList_push (h := h''.push { cls := .type "slice", data := .fields #[Value.int n t, .none, .none] }) (vs := (vs.toList.drop n).toArray) (n := 0)
      rw [Heap.size_push] at this
      exact this
    · rw [List.toList_toArray, show (n : Int).toNat = n from by omega]
      refine RdL.of_atoms_heap ?_ (ra.drop n)
      exact List.all_eq_true.mpr fun x hx => List.all_eq_true.mp ha x (List.mem_of_mem_drop hx)
    · have := push_free (h := h''.push { cls := .type "slice", data := .fields #[Value.int n t, .none, .none] })
      rw [Heap.size_push] at this
      exact ((e1.trans e2).trans ext_push).none this
theorem Ev.sliceTo {value hi : Expr} {p pos : Pos} {ds : List PyData} {i : Int} (hv : Ev w k ρ value (.list ds) f) (hi' : Ev w k ρ hi (.int i) g) (h0 : 0 ≤ i) (ha : ds.all atom = true) (hz : ds.length ≤ 16777216)
    (ht : ∀ o r, letTemporaryGo value o r = pure ()) : Ev w k ρ (.Subscript value (.Slice none (some hi) none p) pos) (.list (ds.take i.toNat)) .fr := by
  intro A c env s rm es tb Q E q
  refine wpAny_Subscript_list_slice (hv rm es tb fun v h' tk e1 b1 r1 => ?_) ht
  rw [evalPart_none]
  refine wpAny_pure ?_
  rw [evalPart_some]
  refine hi' (s := { s with heap := h', toks := tk }) rm (es.keeps e1) b1 fun u h'' tk' e2 b2 r2 => ?_
  obtain ⟨a, vs, rfl, hl', ra, _⟩ := (r1.keeps e2).list_inv
  have hl := hl'.isList
  obtain ⟨t, rfl⟩ := r2.int_inv
  obtain ⟨n, rfl⟩ : ∃ n : Nat, i = n := ⟨i.toNat, by omega⟩
  refine ⟨a, vs, none, some (n : Int), rfl, hl, ?_, .none, .int _ _, ?_⟩
  · rw [sizeLine_eq, ← Array.length_toList, ra.length]; exact hz
  · rw [slicePick_upto']
    refine q _ _ tk' ((e1.trans e2).trans (Ext.trans ext_push ext_push)) b2 (.list (vs := (vs.toList.take n).toArray) ?_ ?_ ?_)
    · have := isList_push (h := h''.push { cls := .type "slice", data := .fields #[.none, Value.int n t, .none] }) (vs := (vs.toList.take n).toArray) (n := 0)
      rw [Heap.size_push] at this
      exact this
    · rw [List.toList_toArray, show (n : Int).toNat = n from by omega]
      refine RdL.of_atoms_heap ?_ (ra.take n)
      exact List.all_eq_true.mpr fun x hx => List.all_eq_true.mp ha x (List.mem_of_mem_take hx)
    · have := push_free (h := h''.push { cls := .type "slice", data := .fields #[.none, Value.int n t, .none] })
      rw [Heap.size_push] at this
      exact ((e1.trans e2).trans ext_push).none this

theorem Ev.strTo {value hi : Expr} {p pos : Pos} {l : List Nat} {i : Int} (hv : Ev w k ρ value (.str (S l)) f) (hi' : Ev w k ρ hi (.int i) g) (h0 : 0 ≤ i) (hz : l.length ≤ 16777216)
    (ht : ∀ o r, letTemporaryGo value o r = pure ()) : Ev w k ρ (.Subscript value (.Slice none (some hi) none p) pos) (.str (S (l.take i.toNat))) .fr := by
  intro A c env s rm es tb
  refine Ys.of tb fun Q E q => ?_
  refine wpAny_Subscript_str_slice (hv rm es tb fun v h' tk e1 b1 r1 => ?_) ht
  rw [evalPart_none]
  refine wpAny_pure ?_
  rw [evalPart_some]
  refine hi' (s := { s with heap := h', toks := tk }) rm (es.keeps e1) b1 fun u h'' tk' e2 b2 r2 => ?_
  obtain ⟨t, rfl⟩ := r1.str_inv
  obtain ⟨t2, rfl⟩ := r2.int_inv
  obtain ⟨n, rfl⟩ : ∃ n : Nat, i = n := ⟨i.toNat, by omega⟩
  refine ⟨S l, t, none, some ((n : Int), t2), rfl, rfl, rfl, ?_⟩
  refine post_val_or_str (c := ((1 : Int) == 1 && (Builtin.Str.strSliceIndices none (some (n : Int)) 1 (S l).length).length == (S l).length) = true) ⟨?_, fun t' k' => ?_⟩
  · have := Txt.slice_le (S l) none (some (n : Int))
    rw [S_len] at this
    rw [sizeLine_eq]
    exact Nat.le_trans this hz
  · show Q (.str (Txt.slice (S l) none (some (n : Int))) t') _
    rw [slice_to]
    exact q _ _ _ ((e1.trans e2).trans ext_push) (.str _ _)
theorem Ev.strFrom {value lo : Expr} {p pos : Pos} {l : List Nat} {i : Int} (hv : Ev w k ρ value (.str (S l)) f) (hi' : Ev w k ρ lo (.int i) g) (h0 : 0 ≤ i) (hz : l.length ≤ 16777216)
    (ht : ∀ o r, letTemporaryGo value o r = pure ()) : Ev w k ρ (.Subscript value (.Slice (some lo) none none p) pos) (.str (S (l.drop i.toNat))) .fr := by
  intro A c env s rm es tb
  refine Ys.of tb fun Q E q => ?_
  refine wpAny_Subscript_str_slice (hv rm es tb fun v h' tk e1 b1 r1 => ?_) ht
  rw [evalPart_some]
  refine hi' (s := { s with heap := h', toks := tk }) rm (es.keeps e1) b1 fun u h'' tk' e2 b2 r2 => ?_
  rw [evalPart_none]
  refine wpAny_pure ?_
  obtain ⟨t, rfl⟩ := r1.str_inv
  obtain ⟨t2, rfl⟩ := r2.int_inv
  obtain ⟨n, rfl⟩ : ∃ n : Nat, i = n := ⟨i.toNat, by omega⟩
  refine ⟨S l, t, some ((n : Int), t2), none, rfl, rfl, rfl, ?_⟩
  refine post_val_or_str (c := ((1 : Int) == 1 && (Builtin.Str.strSliceIndices (some (n : Int)) none 1 (S l).length).length == (S l).length) = true) ⟨?_, fun t' k' => ?_⟩
  · have := Txt.slice_le (S l) (some (n : Int)) none
    rw [S_len] at this
    rw [sizeLine_eq]
    exact Nat.le_trans this hz
  · show Q (.str (Txt.slice (S l) (some (n : Int)) none) t') _
    rw [slice_from]
    exact q _ _ _ ((e1.trans e2).trans ext_push) (.str _ _)
end
end PartL3
section PartL4
def EvL (w : World) (k : Nat) (ρ : List (Str × Sl)) (es : List Expr) (ds : List PyData) (f : Fl) : Prop :=
  ∀ ⦃A : Around⦄ ⦃c : Cx⦄ ⦃env : Env⦄ ⦃s : Shared⦄ ⦃pos : Pos⦄, Room A k → ES w c env ρ s.heap → TB s → ∀ ⦃Q : List Value → Shared → Prop⦄ ⦃E : Value → Shared → Prop⦄,
    (∀ vs h' tk, Ext s.heap h' → 499 ≤ tk → RdL h' (f.P c s.heap) vs ds → Q vs { s with heap := h', toks := tk }) →
      wpAny (model prg w) A (spliced (backTo pos (starEach es env))) Q E s

/-- a callable value: what it hands back of data -/
structure Fn (w : World) (k : Nat) (cv : Value) (ds : List PyData) (d : PyData) : Prop where
  keep : ∀ h : Heap, Wd w h → ∃ kp, (kp = Keeper.frame ∨ kp = Keeper.machine ∨ kp = Keeper.boundFrame) ∧ Looks (model prg w) h (keeperOf cv) kp
  run : ∀ {A : Around} {s : Shared} {P : Addr → Prop} {vs : List Value}, Room A k → Wd w s.heap → TB s → RdL s.heap P vs ds → ∀ {Q : Value → Shared → Prop} {E : Value → Shared → Prop},
    (∀ v h' tk, Ext s.heap h' → Rd h' (fun a => s.heap.get? a = none) v d → Q v { s with heap := h', toks := tk }) → wpAny (model prg w) A (call cv vs) Q E s

section
variable {w : World} {k : Nat} {ρ : List (Str × Sl)} {e : Expr} {es : List Expr} {d : PyData} {ds : List PyData} {f g : Fl}

theorem EvL.nil : EvL w k ρ [] [] f := by
  intro A c env s pos rm es' tb Q E q
  exact spliced_none (q [] s.heap s.toks Ext.rfl tb .nil)
theorem Fl.mono {c : Cx} {h h' : Heap} (x : Ext h h') : ∀ (f : Fl) a, f.P c h' a → f.P c h a
  | .fr, _, n => Ext.none x n
  | .cl, _, p => p
  | .mi, _, p => p
  | .an, _, p => p
theorem EvL.cons (h1 : Ev w k ρ e d f) (h2 : EvL w k ρ es ds f) (he : ∀ env, starEach (e :: es) env = (false, eval e env) :: starEach es env) : EvL w k ρ (e :: es) (d :: ds) f := by
  intro A c env s pos rm es' tb Q E q
  refine spliced_more (h1 rm es' tb fun v h' tk e1 b1 r1 => ?_) (he env)
  refine h2 (s := { s with heap := h', toks := tk }) rm (es'.keeps e1) b1 fun vs h'' tk' e2 b2 r2 => ?_
  exact q _ _ _ (e1.trans e2) b2 (.cons (r1.keeps e2) (r2.mono fun a n => Fl.mono e1 f a n))
theorem EvL.consAn (h1 : Ev w k ρ e d f) (h2 : EvL w k ρ es ds .an) (he : ∀ env, starEach (e :: es) env = (false, eval e env) :: starEach es env) : EvL w k ρ (e :: es) (d :: ds) .an := EvL.cons h1.toAn h2 he

theorem callWith_L {M : Model} {A : Around} {E : Value → Shared → Prop} {s : Shared} {env : Env} {pos : Pos} {fv : Value} {first : List Value} {Q : Value → Shared → Prop} {P : Heap → Prop}
    (hk : ∀ h, P h → ∃ kp, (kp = Keeper.frame ∨ kp = Keeper.machine ∨ kp = Keeper.boundFrame) ∧ Looks M h (keeperOf fv) kp)
    (h : wpAny M A (spliced (backTo pos (starEach (e :: es) env))) (fun vs s₁ => P s₁.heap ∧ wpAny M A (call fv (first ++ vs)) Q E s₁) E s)
    (he : starEach (e :: es) env = (false, eval e env) :: starEach es env) (hp : (backTo pos (starEach es env)).any (·.1) = false) :
    wpAny M A (callWith pos fv first (backTo pos (starEach (e :: es) env)) []) Q E s := by
  rw [he] at h ⊢
  exact callWith_of (by show ((false || (backTo pos (starEach es env)).any (·.1)) || false) = false; rw [hp]; rfl) hk (evalArgs_plain h)
theorem Ev.call {x : Str} {p pos : Pos} {cv : Value} (hm : (x, Sl.glob cv) ∈ ρ) (ha : EvL w k ρ (e :: es) ds .an) (hf : Fn w k cv ds d)
    (he : ∀ env, starEach (e :: es) env = (false, eval e env) :: starEach es env) (hp : ∀ env, (backTo pos (starEach es env)).any (·.1) = false) :
    Ev w k ρ (.Call (.Name x p) (e :: es) [] pos) d .fr := by
  intro A c env s rm es' tb Q E q
  refine Call_ (name_of (es'.vars _ _ hm) ?_ (es'.dbg hm))
  refine callWith_L (P := fun h => Ext s.heap h ∧ Wd w h) (fun h x => hf.keep h x.2) (ha rm es' tb fun vs h' tk e1 b1 r1 => ⟨⟨e1, es'.wd.keeps e1⟩, ?_⟩) (he env) (hp env)
  · refine asm (s := { s with heap := h', toks := tk }) b1 (hf.run (s := { s with heap := h', toks := tk }) rm (es'.wd.keeps e1) b1 r1 fun v h'' tk' e2 r2 b2 => ?_)
    exact q v h'' tk' (e1.trans e2) b2 (r2.mono fun a n => e1.none n)

theorem keep_builtin {id : String} : ∀ h : Heap, Wd w h → ∃ kp, (kp = Keeper.frame ∨ kp = Keeper.machine ∨ kp = Keeper.boundFrame) ∧ Looks (model prg w) h (keeperOf (.builtin id)) kp :=
  fun _ _ => ⟨.machine, .inr (.inl rfl), Looks.of_pure rfl⟩
theorem keep_type {id : String} : ∀ h : Heap, Wd w h → ∃ kp, (kp = Keeper.frame ∨ kp = Keeper.machine ∨ kp = Keeper.boundFrame) ∧ Looks (model prg w) h (keeperOf (.type id)) kp :=
  fun _ _ => ⟨.machine, .inr (.inl rfl), Looks.of_pure rfl⟩

theorem RdL.one_inv {h : Heap} {P : Addr → Prop} {vs : List Value} {d : PyData} (r : RdL h P vs [d]) : ∃ v, vs = [v] ∧ Rd h P v d := by
  obtain ⟨v, us, rfl, a, b⟩ := r.cons_inv
  rw [b.nil_inv']; exact ⟨v, rfl, a⟩
theorem RdL.two_inv {h : Heap} {P : Addr → Prop} {vs : List Value} {d1 d2 : PyData} (r : RdL h P vs [d1, d2]) : ∃ v1 v2, vs = [v1, v2] ∧ Rd h P v1 d1 ∧ Rd h P v2 d2 := by
  obtain ⟨v, us, rfl, a, b⟩ := r.cons_inv
  obtain ⟨v2, rfl, c⟩ := b.one_inv
  exact ⟨v, v2, rfl, a, c⟩

theorem fn_len (hz : ds.length < 2 ^ 62) : Fn w k (.builtin "len") [.list ds] (.int ds.length) where
  keep := keep_builtin
  run := by
    intro A s P vs rm wd tb r Q E q
    obtain ⟨v, rfl, r1⟩ := r.one_inv
    obtain ⟨a, vs, rfl, hl, ra, _⟩ := r1.list_inv
    have e := ra.length
    rw [Array.length_toList] at e
    refine Calls.call_len_list hl.isList (by rw [e]; omega) ?_
    rw [e]
    exact q _ s.heap _ Ext.rfl (.int _ _)
theorem fn_str {i : Int} (h1 : -4611686018427387904 < i) (h2 : i < 4611686018427387904) : Fn w k (.type "str") [.int i] (.str (Str.ofString (toString i))) where
  keep := keep_type
  run := by
    intro A s P vs rm wd tb r Q E q
    obtain ⟨v, rfl, r1⟩ := r.one_inv
    obtain ⟨t, rfl⟩ := r1.int_inv
    exact PySem.P.str_of_int (shown (N := 4611686018427387904) h1 h2 (by decide +kernel)) (q _ s.heap _ Ext.rfl (.str _ _))

/-- a list display -/
theorem Ev.list {pos : Pos} (h : EvL w k ρ es ds .fr) (hz : ds.length ≤ 16777216) : Ev w k ρ (.List es pos) (.list ds) .fr := by
  intro A c env s rm es' tb Q E q
  refine List_ (h rm es' tb fun vs h' tk e1 b1 r1 => ?_)
  refine wpAny_newList ?_ (by rw [sizeLine_eq, r1.length]; exact hz)
  refine q _ _ tk (e1.trans ext_push) b1 (.list isList_push ?_ (e1.none push_free))
  simpa using (r1.keeps (h' := h'.push { cls := .type "list", data := .seq vs.toArray }) ext_push)
theorem Ev.listA {pos : Pos} (h : EvL w k ρ es ds .an) (ha : ds.all atom = true) (hz : ds.length ≤ 16777216) : Ev w k ρ (.List es pos) (.list ds) .fr := by
  refine Ev.list ?_ hz
  intro A c env s pos rm es' tb Q E q
  exact h rm es' tb fun vs h' tk e1 b1 r1 => q vs h' tk e1 b1 (RdL.of_atoms_heap ha r1)
end
end PartL4
section PartL5
def VarIs (env : Env) (m cm : Str → Option Value) (x : Str) (v : Value) : Prop :=
  (env.kindOf x = some .local ∧ m x = some v) ∨ (env.kindOf x = some .cell ∧ (∃ c, env.cells.lookup x = some c) ∧ cm x = some v)
def Stor (env : Env) (x : Str) : Prop := env.kindOf x = some .local ∨ (env.kindOf x = some .cell ∧ ∃ c, env.cells.lookup x = some c)
theorem VarIs.stor {env : Env} {m cm : Str → Option Value} {x : Str} {v : Value} (h : VarIs env m cm x v) : Stor env x := h.imp (·.1) fun h => ⟨h.1, h.2.1⟩

def avOf (env : Env) (D : Str → Option Addr) (a : Addr) : Prop := a ≠ env.locals ∧ (∀ n c, (n, c) ∈ env.cells → a ≠ c) ∧ ∀ y, D y ≠ some a

def SlotS (s₀ s : Shared) (env : Env) (D : Str → Option Addr) (m cm : Str → Option Value) (x : Str) : Sl → Prop
  | .free => Stor env x
  | .val d => ∃ v, VarIs env m cm x v ∧ Rd s.heap (avOf env D) v d
  | .own ds => ∃ a vs, VarIs env m cm x (.ref a) ∧ D x = some a ∧ PlainL s.heap a vs ∧ RdL s.heap (avOf env D) vs.toList ds
  | .glob v => Loads env s₀.heap x v

structure St (w : World) (s₀ : Shared) (env : Env) (D : Str → Option Addr) (ρ : List (Str × Sl)) (s : Shared) : Prop where
  wd : Wd w s₀.heap
  kind : env.scope.kind = .function
  nd : (ρ.map (·.1)).Nodup
  nodbg : ∀ x ∈ ρ.map (·.1), (x == ("__debug__" : Str)) = false
  gl : Gl env
  dn : ∀ y a, D y = some a → s₀.heap.get? a = none ∧ a ≠ env.locals ∧ (∀ n c, (n, c) ∈ env.cells → a ≠ c) ∧ ∃ o xs n, s.heap.get? a = some o ∧ o.data = .seq xs n
  di : ∀ x y a, D x = some a → D y = some a → x = y
  ic : ∃ m cm, InCallC s₀ env.locals m env.cells cm s ∧ ∀ x sl, (x, sl) ∈ ρ → SlotS s₀ s env D m cm x sl

inductive SetIn (x : Str) (sl : Sl) : List (Str × Sl) → List (Str × Sl) → Prop
  | head {old r} : (∀ v, old ≠ .glob v) → SetIn x sl ((x, old) :: r) ((x, sl) :: r)
  | tail {p r r'} : SetIn x sl r r' → SetIn x sl (p :: r) (p :: r')
theorem SetIn.keys {x : Str} {sl : Sl} {ρ ρ' : List (Str × Sl)} (h : SetIn x sl ρ ρ') : ρ'.map (·.1) = ρ.map (·.1) := by
  induction h with
  | head _ => rfl
  | tail _ ih => simp [ih]
theorem SetIn.old {x : Str} {sl : Sl} {ρ ρ' : List (Str × Sl)} (h : SetIn x sl ρ ρ') : ∃ old, (x, old) ∈ ρ ∧ ∀ v, old ≠ .glob v := by
  induction h with
  | head h => exact ⟨_, .head _, h⟩
  | tail _ ih => obtain ⟨o, h, q⟩ := ih; exact ⟨o, .tail _ h, q⟩
theorem SetIn.mem {x : Str} {sl : Sl} {ρ ρ' : List (Str × Sl)} (h : SetIn x sl ρ ρ') (nd : (ρ.map (·.1)).Nodup) {y : Str} {t : Sl} (hm : (y, t) ∈ ρ') : (y = x ∧ t = sl) ∨ (y ≠ x ∧ (y, t) ∈ ρ) := by
  induction h with
  | @head old r _ =>
    simp only [List.map_cons, List.nodup_cons] at nd
    rcases List.mem_cons.mp hm with e | hm
    · cases e; exact .inl ⟨rfl, rfl⟩
    · exact .inr ⟨fun e => nd.1 (e ▸ List.mem_map_of_mem (f := (·.1)) hm), .tail _ hm⟩
  | @tail p r r' h ih =>
    simp only [List.map_cons, List.nodup_cons] at nd
    rcases List.mem_cons.mp hm with e | hm
    · subst e
      refine .inr ⟨fun e => nd.1 ?_, .head _⟩
      obtain ⟨o, ho, _⟩ := h.old
      exact e ▸ List.mem_map_of_mem (f := (·.1)) ho
    · rcases ih nd.2 hm with q | q
      · exact .inl q
      · exact .inr ⟨q.1, .tail _ q.2⟩

section
variable {w : World} {s₀ s s' : Shared} {env : Env} {D D' D'' : Str → Option Addr} {ρ ρ' : List (Str × Sl)}

theorem St.keep (x : St w s₀ env D ρ s) : Ext s₀.heap s.heap := let ⟨_, _, i, _⟩ := x.ic; i.toInCall.keep
theorem St.same (x : St w s₀ env D ρ s) : ∃ h tk, s = { s₀ with heap := h, toks := tk } := let ⟨_, _, i, _⟩ := x.ic; i.toInCall.same

theorem get_of_ns {h : Heap} {L : Addr} {m : Str → Option Value} (n : h.Ns L m) : ∃ o es ep, h.get? L = some o ∧ o.data = .dict es ep := let ⟨o, es, ep, a, b, _⟩ := n; ⟨o, es, ep, a, b⟩
theorem lookup_mem {α : Type} : ∀ {l : List (Str × α)} {n : Str} {c : α}, (n, c) ∈ l → ∃ c', l.lookup n = some c'
  | (k, v) :: r, n, c, h => by
    rw [List.lookup_cons]
    cases hb : n == k with
    | true => exact ⟨_, rfl⟩
    | false =>
      rcases List.mem_cons.mp h with e | h
      · cases e; simp at hb
      · exact lookup_mem h

theorem St.es (x : St w s₀ env D ρ s) (cz : ∀ n c, (n, c) ∈ env.cells → ∃ o, s.heap.get? c = some o) : ES w ⟨s₀.heap, avOf env D⟩ env ρ s.heap := by
  obtain ⟨m, cm, i, vs⟩ := x.ic
  refine ⟨x.wd.keeps i.toInCall.keep, fun a n => ⟨?_, ?_, ?_⟩, fun a n => i.toInCall.keep |> fun k => Ext.none k n, fun y sl hm => ?_, x.nodbg, x.gl⟩
  · rintro rfl
    obtain ⟨o, _, _, ho, _⟩ := get_of_ns i.toInCall.ns
    rw [ho] at n; cases n
  · rintro nm c hc rfl
    obtain ⟨o, ho⟩ := cz nm a hc
    rw [ho] at n; cases n
  · intro y hy
    obtain ⟨_, _, _, o, _, _, ho, _⟩ := x.dn y a hy
    rw [ho] at n; cases n
  · have loads : ∀ {v}, VarIs env m cm y v → Loads env s.heap y v := by
      intro v hv M A s' Q E e q
      rcases hv with ⟨hl, hv⟩ | ⟨hl, ⟨c, hc⟩, hv⟩
      · exact wpAny_loadName_local x.kind hl (i.toInCall.ns.keeps e) hv q
      · exact wpAny_loadName_cell x.kind hl hc ((hv ▸ i.cell y c hc).keeps e) q
    have h := vs y sl hm
    cases sl with
    | free => trivial
    | val d => obtain ⟨v, hv, r⟩ := h; exact ⟨v, loads hv, r⟩
    | own ds =>
      obtain ⟨a, us, hv, hD, hl, r⟩ := h
      refine ⟨_, loads hv, .list hl (r.mono fun _ _ => trivial) trivial, fun ha => .list hl (RdL.of_atoms_heap ha r) (x.dn y a hD).1⟩
    | glob v =>
      have l : Loads env s.heap y v := @Loads.keeps env s₀.heap s.heap y v h i.toInCall.keep
      exact @l

/-- what a statement leaves as it was -/
structure Fr2 (env : Env) (D D' : Str → Option Addr) (s s' : Shared) : Prop where
  live : ∀ b o, s.heap.get? b = some o → ∃ o', s'.heap.get? b = some o'
  keep : ∀ b o, avOf env D b → s.heap.get? b = some o → s'.heap.get? b = some o
  dnew : ∀ y a, D' y = some a → D y = some a ∨ s.heap.get? a = none
theorem Fr2.refl : Fr2 env D D s s := ⟨fun _ o h => ⟨o, h⟩, fun _ _ _ h => h, fun _ _ h => .inl h⟩
theorem Fr2.trans {s₁ s₂ s₃ : Shared} (a : Fr2 env D D' s₁ s₂) (b : Fr2 env D' D'' s₂ s₃) : Fr2 env D D'' s₁ s₃ := by
  refine ⟨fun p o h => let ⟨o', h'⟩ := a.live p o h; b.live p o' h', fun p o av h => b.keep p o ⟨av.1, av.2.1, fun y hy => ?_⟩ (a.keep p o av h), fun y p h => ?_⟩
  · rcases a.dnew y p hy with q | q
    · exact av.2.2 y q
    · rw [h] at q; cases q
  · rcases b.dnew y p h with q | q
    · exact a.dnew y p q
    · refine .inr ?_
      cases hq : s₁.heap.get? p with
      | none => rfl
      | some o => obtain ⟨o', h'⟩ := a.live p o hq; rw [h'] at q; cases q
end

inductive Out
  | nx (ρ : List (Str × Sl))
  | rt (d : PyData)

def RetOk (s₀ s' : Shared) (v : Value) (d : PyData) : Prop :=
  (∃ h tk, s' = { s₀ with heap := h, toks := tk }) ∧ Ext s₀.heap s'.heap ∧ Rd s'.heap (fun a => s₀.heap.get? a = none) v d

def CellsThere (env : Env) (s : Shared) : Prop := ∀ n c, (n, c) ∈ env.cells → ∃ o, s.heap.get? c = some o

def ExG (w : World) (k : Nat) (ρ : List (Str × Sl)) (t : Env → Sem Flow) (P : Out → Prop) : Prop :=
  ∀ ⦃A : Around⦄ ⦃s₀ s : Shared⦄ ⦃env : Env⦄ ⦃D : Str → Option Addr⦄, Room A k → St w s₀ env D ρ s → CellsThere env s → TB s → ∀ ⦃Q : Flow → Shared → Prop⦄ ⦃E : Value → Shared → Prop⦄,
    (∀ ρ' D' s', P (.nx ρ') → St w s₀ env D' ρ' s' → Fr2 env D D' s s' → TB s' → Q .next s') → (∀ d v s', P (.rt d) → RetOk s₀ s' v d → Q (.ret v) s') →
      wpAny (model prg w) A (t env) Q E s
theorem ExG.of {w : World} {k : Nat} {ρ : List (Str × Sl)} {t : Env → Sem Flow} {P : Out → Prop}
    (h : ∀ (A : Around) (s₀ s : Shared) (env : Env) (D : Str → Option Addr), Room A k → St w s₀ env D ρ s → CellsThere env s → TB s → ∀ (Q : Flow → Shared → Prop) (E : Value → Shared → Prop),
      (∀ ρ' D' s', P (.nx ρ') → St w s₀ env D' ρ' s' → Fr2 env D D' s s' → Q .next s') → (∀ d v s', P (.rt d) → RetOk s₀ s' v d → Q (.ret v) s') → wpAny (model prg w) A (t env) Q E s) : ExG w k ρ t P := by
  intro A s₀ s env D rm st cz tb Q E q1 q2
  exact asm tb (h A s₀ s env D rm st cz tb _ E (fun ρ' D' s' p x f b => q1 ρ' D' s' p x f b) fun d v s' p r _ => q2 d v s' p r)
abbrev Ex1 (w : World) (k : Nat) (ρ : List (Str × Sl)) (st : Stmt) (P : Out → Prop) : Prop := ExG w k ρ (exec st) P
abbrev Ex (w : World) (k : Nat) (ρ : List (Str × Sl)) (ss : List Stmt) (P : Out → Prop) : Prop := ExG w k ρ (execs ss) P

section
variable {w : World} {k : Nat} {ρ ρ' : List (Str × Sl)} {e : Expr} {d : PyData} {f g : Fl} {P : Out → Prop} {st : Stmt} {rest : List Stmt}

theorem CellsThere.next {env : Env} {D D' : Str → Option Addr} {s s' : Shared} (c : CellsThere env s) (f : Fr2 env D D' s s') : CellsThere env s' := fun n a h => let ⟨o, ho⟩ := c n a h; f.live a o ho

theorem Ex.nil (h : P (.nx ρ)) : Ex w k ρ [] P := by
  intro A s₀ s env D rm x cz tb Q E q1 q2
  exact wpAny_execs_nil (q1 _ _ _ h x Fr2.refl tb)
theorem Ex.cons (h : Ex1 w k ρ st fun o => match o with | .nx ρ' => Ex w k ρ' rest P | .rt d => P (.rt d)) : Ex w k ρ (st :: rest) P := by
  intro A s₀ s env D rm x cz tb Q E q1 q2
  refine wpAny_execs_cons (h rm x cz tb (fun ρ' D' s' hp x' fr tb' => ?_) fun d v s' hp r => q2 d v s' hp r)
  exact hp rm x' (cz.next fr) tb' (fun ρ'' D'' s'' hp'' x'' fr'' => q1 ρ'' D'' s'' hp'' x'' (fr.trans fr'')) q2
theorem ExG.mono {t : Env → Sem Flow} {P' : Out → Prop} (h : ExG w k ρ t P) (hp : ∀ o, P o → P' o) : ExG w k ρ t P' := by
  intro A s₀ s env D rm x cz tb Q E q1 q2
  exact h rm x cz tb (fun ρ' D' s' p => q1 ρ' D' s' (hp _ p)) fun d v s' p => q2 d v s' (hp _ p)
end
end PartL5
section PartL6
section
variable {w : World} {s₀ s s' : Shared} {env : Env} {D D' : Str → Option Addr} {ρ ρ' : List (Str × Sl)} {m cm m' cm' : Str → Option Value} {y : Str} {sl : Sl}

/-- one name (or what it owns) turned -/
theorem St.put (x : St w s₀ env D ρ s) (vs : ∀ x sl, (x, sl) ∈ ρ → SlotS s₀ s env D m cm x sl) (hs : SetIn y sl ρ ρ') (i' : InCallC s₀ env.locals m' env.cells cm' s')
    (hm : ∀ z, z ≠ y → m' z = m z) (hcm : ∀ z, z ≠ y → cm' z = cm z) (hD : ∀ z, z ≠ y → D' z = D z)
    (hfresh : ∀ a, D' y = some a → D y = some a ∨ s.heap.get? a = none)
    (hdn : ∀ a, D' y = some a → s₀.heap.get? a = none ∧ a ≠ env.locals ∧ (∀ n c, (n, c) ∈ env.cells → a ≠ c) ∧ ∃ o xs n, s'.heap.get? a = some o ∧ o.data = .seq xs n)
    (keep : ∀ b o, (avOf env D b ∨ ∃ z, z ≠ y ∧ D z = some b) → s.heap.get? b = some o → s'.heap.get? b = some o)
    (hy : SlotS s₀ s' env D' m' cm' y sl) : St w s₀ env D' ρ' s' := by
  refine ⟨x.wd, x.kind, by rw [hs.keys]; exact x.nd, by rw [hs.keys]; exact x.nodbg, x.gl, fun z a hz => ?_, fun u v a hu hv => ?_, m', cm', i', fun z t hz => ?_⟩
  · by_cases hzy : z = y
    · subst hzy; exact hdn a hz
    · rw [hD z hzy] at hz
      obtain ⟨h1, h2, h3, o, xs, n, ho, hd⟩ := x.dn z a hz
      exact ⟨h1, h2, h3, o, xs, n, keep a o (.inr ⟨z, hzy, hz⟩) ho, hd⟩
  · by_cases huy : u = y
    · by_cases hvy : v = y
      · rw [huy, hvy]
      · rw [hD v hvy] at hv
        subst huy
        rcases hfresh a hu with q | q
        · exact x.di _ _ a q hv
        · obtain ⟨_, _, _, o, _, _, ho, _⟩ := x.dn v a hv
          rw [ho] at q; cases q
    · by_cases hvy : v = y
      · rw [hD u huy] at hu
        subst hvy
        rcases hfresh a hv with q | q
        · exact x.di _ _ a hu q
        · obtain ⟨_, _, _, o, _, _, ho, _⟩ := x.dn u a hu
          rw [ho] at q; cases q
      · rw [hD u huy] at hu
        rw [hD v hvy] at hv
        exact x.di _ _ a hu hv
  · rcases hs.mem x.nd hz with ⟨rfl, rfl⟩ | ⟨hne, hz⟩
    · exact hy
    · have av' : ∀ b o, avOf env D b → s.heap.get? b = some o → avOf env D b ∧ avOf env D' b := by
        intro b o av ho
        refine ⟨av, av.1, av.2.1, fun u hu => ?_⟩
        by_cases huy : u = y
        · subst huy
          rcases hfresh b hu with q | q
          · exact av.2.2 _ q
          · rw [ho] at q; cases q
        · rw [hD u huy] at hu; exact av.2.2 u hu
      have var : ∀ v, VarIs env m cm z v → VarIs env m' cm' z v := by
        intro v hv
        rcases hv with ⟨a, b⟩ | ⟨a, b, c⟩
        · exact .inl ⟨a, by rw [hm z hne]; exact b⟩
        · exact .inr ⟨a, b, by rw [hcm z hne]; exact c⟩
      have h := vs z t hz
      cases t with
      | free => exact h
      | val d =>
        obtain ⟨v, hv, r⟩ := h
        refine ⟨v, var v hv, ?_⟩
        exact ((r.there (P' := fun b => avOf env D b ∧ avOf env D' b) av').on fun a o xs n av ho hd => keep a o (.inl av.1) ho).mono fun _ p => p.2
      | own ds =>
        obtain ⟨a, us, hv, hDa, hl, r⟩ := h
        refine ⟨a, us, var _ hv, by rw [hD z hne]; exact hDa, ?_, ?_⟩
        · obtain ⟨o, n, ho, hc, hd⟩ := hl
          exact ⟨o, n, keep a o (.inr ⟨z, hne, hDa⟩) ho, hc, hd⟩
        · exact ((r.there (P' := fun b => avOf env D b ∧ avOf env D' b) av').on fun a o xs n av ho hd => keep a o (.inl av.1) ho).mono fun _ p => p.2
      | glob v => exact @h

/-- grown: nothing turned -/
theorem St.grow (x : St w s₀ env D ρ s) {h' : Heap} {tk : Nat} (e : Ext s.heap h') : St w s₀ env D ρ { s with heap := h', toks := tk } := by
  obtain ⟨m, cm, i, vs⟩ := x.ic
  refine ⟨x.wd, x.kind, x.nd, x.nodbg, x.gl, fun z a hz => ?_, x.di, m, cm, ⟨⟨?_, i.toInCall.ns.keeps e, fun b o q => e _ _ (i.toInCall.keep b o q), i.toInCall.fresh⟩, fun n c hc => (i.cell n c hc).keeps e, i.apart, i.above⟩, fun z t hz => ?_⟩
  · obtain ⟨h1, h2, h3, o, xs, n, ho, hd⟩ := x.dn z a hz
    exact ⟨h1, h2, h3, o, xs, n, e _ _ ho, hd⟩
  · obtain ⟨h, t, q⟩ := i.toInCall.same
    exact ⟨h', tk, by rw [q]⟩
  · have h := vs z t hz
    cases t with
    | free => exact h
    | val d => obtain ⟨v, hv, r⟩ := h; exact ⟨v, hv, r.keeps e⟩
    | own ds =>
      obtain ⟨a, us, hv, hDa, hl, r⟩ := h
      exact ⟨a, us, hv, hDa, hl.keeps e, r.keeps e⟩
    | glob v => exact @h
theorem Fr2.grow {h' : Heap} {tk : Nat} (e : Ext s.heap h') : Fr2 env D D s { s with heap := h', toks := tk } := ⟨fun b o h => ⟨o, e b o h⟩, fun b o _ h => e b o h, fun _ _ h => .inl h⟩

theorem live_of_sameBut {h h' : Heap} {a : Addr} {o : Obj} (hs : Heap.SameBut a h h') (ha : h'.get? a = some o) : ∀ b o, h.get? b = some o → ∃ o', h'.get? b = some o' := by
  intro b p hp
  by_cases hb : b = a
  · subst hb; exact ⟨o, ha⟩
  · exact ⟨p, (hs.2 b hb).trans hp⟩

/-- a name is stored -/
theorem store_name {M : Model} {A : Around} {E : Value → Shared → Prop} {v : Value} {s₁ : Shared} (x : St w s₀ env D ρ s) (hs : SetIn y sl ρ ρ')
    {h₁ : Heap} {tk₁ : Nat} (e₁ : Ext s.heap h₁) (hs₁ : s₁ = { s with heap := h₁, toks := tk₁ })
    (hD : ∀ z, z ≠ y → D' z = D z) (hfresh : ∀ a, D' y = some a → D y = some a ∨ s.heap.get? a = none)
    (hdn : ∀ a, D' y = some a → s₀.heap.get? a = none ∧ a ≠ env.locals ∧ (∀ n c, (n, c) ∈ env.cells → a ≠ c) ∧ ∃ o xs n, h₁.get? a = some o ∧ o.data = .seq xs n)
    (hy : ∀ h' m' cm', (∀ b o, b ≠ env.locals → (∀ n c, (n, c) ∈ env.cells → b ≠ c) → h₁.get? b = some o → h'.get? b = some o) → VarIs env m' cm' y v → ∀ tk, SlotS s₀ { s with heap := h', toks := tk } env D' m' cm' y sl)
    {Q : Unit → Shared → Prop} (q : ∀ s', St w s₀ env D' ρ' s' → Fr2 env D D' s s' → Q () s') : wpAny M A (storeName env y v) Q E s₁ := by
  subst hs₁
  obtain ⟨m, cm, i, vs⟩ := x.ic
  have stor : Stor env y := by
    obtain ⟨old, ho, hg⟩ := hs.old
    have h := vs y old ho
    cases old with
    | free => exact h
    | val d => obtain ⟨v, hv, _⟩ := h; exact hv.stor
    | own ds => obtain ⟨a, us, hv, _⟩ := h; exact hv.stor
    | glob v => exact absurd rfl (hg v)
  have hcl : ∀ n c, (n, c) ∈ env.cells → env.locals < c := i.above
  obtain ⟨hh, tt, hsame⟩ := i.toInCall.same
  rcases stor with hl | ⟨hl, c, hc⟩
  · refine wpAny_storeName_local hl (i.toInCall.ns.keeps e₁) (fun h' hn hs' => ?_) (by rw [x.kind]; rfl)
    have keepAll : ∀ b o, b ≠ env.locals → s.heap.get? b = some o → h'.get? b = some o := fun b o hb ho => (hs'.2 b hb).trans (e₁ b o ho)
    have i' : InCallC s₀ env.locals (fun z => if z = y then some v else m z) env.cells cm { s with heap := h', toks := tk₁ + 1 } := by
      refine ⟨⟨⟨h', tk₁ + 1, by rw [hsame]⟩, hn, fun b o h => keepAll b o (Nat.ne_of_lt (Nat.lt_of_lt_of_le (Heap.lt_size h) i.toInCall.fresh)) (i.toInCall.keep b o h), i.toInCall.fresh⟩, fun n c hc => ?_, i.apart, i.above⟩
      have hne : c ≠ env.locals := Nat.ne_of_gt (hcl n c (mem_of_lookup hc))
      exact ((i.cell n c hc).keeps e₁).sameBut hs' hne
    refine q _ (x.put vs hs i' (fun z hz => if_neg hz) (fun z _ => rfl) hD hfresh (fun a ha => ?_) (fun b o hb ho => keepAll b o ?_ ho) ?_) ⟨?_, fun b o av ho => keepAll b o av.1 ho, fun z a hz => ?_⟩
    · obtain ⟨h1, h2, h3, o, xs, n, ho, hd⟩ := hdn a ha
      exact ⟨h1, h2, h3, o, xs, n, (hs'.2 a h2).trans ho, hd⟩
    · rcases hb with av | ⟨z, _, hz⟩
      · exact av.1
      · exact (x.dn z b hz).2.1
    · exact hy h' _ cm (fun b o hb _ ho => (hs'.2 b hb).trans ho) (.inl ⟨hl, if_pos rfl⟩) (tk₁ + 1)
    · intro b o ho
      obtain ⟨oL, _, _, hL, _⟩ := get_of_ns hn
      exact live_of_sameBut hs' hL b o (e₁ b o ho)
    · by_cases hzy : z = y
      · subst hzy; exact hfresh a hz
      · rw [hD z hzy] at hz; exact .inl hz
  · have hcm := mem_of_lookup hc
    have hLc := hcl y c hcm
    refine wpAny_storeName_cell x.kind hl hc ((i.cell y c hc).keeps e₁) fun h' hc' hs' => ?_
    have keepAll : ∀ b o, b ≠ c → s.heap.get? b = some o → h'.get? b = some o := fun b o hb ho => (hs'.2 b hb).trans (e₁ b o ho)
    have i' : InCallC s₀ env.locals m env.cells (fun z => if z = y then some v else cm z) { s with heap := h', toks := tk₁ } := by
      refine ⟨⟨⟨h', tk₁, by rw [hsame]⟩, (i.toInCall.ns.keeps e₁).sameBut hs' (Nat.ne_of_lt hLc), fun b o h => keepAll b o (Nat.ne_of_lt (Nat.lt_trans (Nat.lt_of_lt_of_le (Heap.lt_size h) i.toInCall.fresh) hLc)) (i.toInCall.keep b o h), i.toInCall.fresh⟩, fun n c₂ hc₂ => ?_, i.apart, i.above⟩
      by_cases hn : n = y
      · subst hn
        rw [hc] at hc₂; cases hc₂
        simpa using hc'
      · rw [if_neg hn]
        exact ((i.cell n c₂ hc₂).keeps e₁).sameBut hs' fun e => hn (name_of_addr i.apart (mem_of_lookup hc₂) (e ▸ hcm))
    refine q _ (x.put vs hs i' (fun z _ => rfl) (fun z hz => if_neg hz) hD hfresh (fun a ha => ?_) (fun b o hb ho => keepAll b o ?_ ho) ?_) ⟨?_, fun b o av ho => keepAll b o (av.2.1 y c hcm) ho, fun z a hz => ?_⟩
    · obtain ⟨h1, h2, h3, o, xs, n, ho, hd⟩ := hdn a ha
      exact ⟨h1, h2, h3, o, xs, n, (hs'.2 a (h3 y c hcm)).trans ho, hd⟩
    · rcases hb with av | ⟨z, _, hz⟩
      · exact av.2.1 y c hcm
      · exact (x.dn z b hz).2.2.1 y c hcm
    · exact hy h' m _ (fun b o _ hb ho => (hs'.2 b (hb y c hcm)).trans ho) (.inr ⟨hl, ⟨c, hc⟩, if_pos rfl⟩) tk₁
    · intro b o ho
      obtain ⟨oc, hoc, _⟩ := hc'
      exact live_of_sameBut hs' hoc b o (e₁ b o ho)
    · by_cases hzy : z = y
      · subst hzy; exact hfresh a hz
      · rw [hD z hzy] at hz; exact .inl hz
end
end PartL6
section PartL7
theorem mapSeq_dict {o : Obj} {f : Array Value → Array Value} : (o.mapSeq f).dict = o.dict := by
  obtain ⟨c, d, dt, sl⟩ := o
  cases dt <;> rfl

/-- an item of a plain list is put -/
theorem setItem_pl {w : World} {A : Around} {E : Value → Shared → Prop} {s : Shared} {l : Addr} {items : Array Value} {i : Int} {t : Tok} {v : Value} {Q : Unit → Shared → Prop} (hl : PlainL s.heap l items)
    (h0 : 0 ≤ i) (hfit : i < 2 ^ 63) (hn : i < items.size) (hQ : ∀ h', PlainL h' l (items.setIfInBounds i.toNat v) → Heap.SameBut l s.heap h' → Q () { s with heap := h' }) :
    wpAny (model prg w) A (setItem (.ref l) (.int i t) v) Q E s := by
  obtain ⟨o, ne, ho, hc, hdn, hd⟩ := id hl
  unfold setItem
  refine wpAny_holding (wpAny_bind (wpAny_sequenceKey hl.isList.typeIs (by decide) (wpAny_bind (wpAny_callSpecial?_slot (name := Str.ofString "__setitem__") hl.isList.typeIs slot_list_setitem
    (wpAny_call_entry slot_list_setitem hl.isList.typeIs entry_list_setitem ?_ (args_list_setitem _ _ _))))))
  show wpAny _ _ (Builtin.List.listSubscript? (.int i t) >>= _) _ _ s
  refine wpAny_bind (wpAny_listSubscript_int (fitsIndex_of h0 hfit) ?_)
  clear hfit
  obtain ⟨j, rfl⟩ := Int.eq_ofNat_of_zero_le h0
  have hj : j < items.size := by omega
  have hx' : items[j]? = some items[j] := Array.getElem?_eq_getElem hj
  show wpAny _ _ ((seqItemAt l j >>= fun r => pure (r.map (j, ·))) >>= _) _ _ s
  refine wpAny_bind (wpAny_bind (wpAny_seqItemAt ho hd (wpAny_pure ?_)))
  rw [hx']
  show wpAny _ _ (setSeqItemAt l j v >>= _) _ _ s
  obtain ⟨n', hd'⟩ := Obj.data_mapSeq hd (·.setIfInBounds j v)
  have hfin : PlainL (s.heap.update l (Obj.mapSeq (·.setIfInBounds j v))) l (items.setIfInBounds j v) :=
    ⟨_, n', Heap.get?_update_self _ ho (Obj.isFreed_of_seq hd'), (Obj.cls_mapSeq ..).trans hc, mapSeq_dict.trans hdn, hd'⟩
  refine wpAny_bind (wpAny_setSeqItemAt ho hd ?_)
  first
    | exact wpAny_bind (wpAny_pure (wpAny_pure ⟨.none, rfl, wpAny_pure (hQ _ hfin (Heap.SameBut.update ..))⟩))
    | exact wpAny_pure ⟨.none, rfl, wpAny_pure (hQ _ hfin (Heap.SameBut.update ..))⟩

theorem VarIs.loads {w : World} {s₀ s : Shared} {env : Env} {D : Str → Option Addr} {ρ : List (Str × Sl)} {m cm : Str → Option Value} {y : Str} {v : Value} (x : St w s₀ env D ρ s) (i : InCallC s₀ env.locals m env.cells cm s)
    (hv : VarIs env m cm y v) : Loads env s.heap y v := by
  intro M A s' Q E e q
  rcases hv with ⟨hl, hv⟩ | ⟨hl, ⟨c, hc⟩, hv⟩
  · exact wpAny_loadName_local x.kind hl (i.toInCall.ns.keeps e) hv q
  · exact wpAny_loadName_cell x.kind hl hc ((hv ▸ i.cell y c hc).keeps e) q

section
variable {w : World} {k : Nat} {ρ ρ' : List (Str × Sl)} {e : Expr} {es : List Expr} {d : PyData} {ds ds' : List PyData} {f g : Fl} {P : Out → Prop} {st : Stmt} {rest : List Stmt} {x : Str} {p pos : Pos}

theorem interactive_no {env : Env} (hk : env.scope.kind = .function) : interactive env = false := by unfold interactive; rw [hk]; rfl

/-- what is owned is turned in place -/
theorem own_turn {s₀ s : Shared} {env : Env} {D : Str → Option Addr} {m cm : Str → Option Value} {a : Addr} {us' : Array Value} {h₁ h₂ : Heap} {tk : Nat} (st : St w s₀ env D ρ s) (i : InCallC s₀ env.locals m env.cells cm s)
    (vs : ∀ x sl, (x, sl) ∈ ρ → SlotS s₀ s env D m cm x sl) (hs : SetIn x (.own ds') ρ ρ') (hv : VarIs env m cm x (.ref a)) (hD : D x = some a) (e1 : Ext s.heap h₁) (hp : PlainL h₂ a us') (hb : Heap.SameBut a h₁ h₂)
    (r : RdL h₁ (avOf env D) us'.toList ds') : St w s₀ env D ρ' { s with heap := h₂, toks := tk } ∧ Fr2 env D D s { s with heap := h₂, toks := tk } := by
  obtain ⟨hh, tt, hsame⟩ := i.toInCall.same
  have hdn := st.dn x a hD
  have keepAll : ∀ b o, b ≠ a → s.heap.get? b = some o → h₂.get? b = some o := fun b o hn ho => (hb.2 b hn).trans (e1 b o ho)
  obtain ⟨o, n, ho, hc, hdi, hda⟩ := hp
  have i' : InCallC s₀ env.locals m env.cells cm { s with heap := h₂, toks := tk } := by
    refine ⟨⟨⟨h₂, tk, by rw [hsame]⟩, (i.toInCall.ns.keeps e1).sameBut hb (Ne.symm hdn.2.1), fun b o' q => keepAll b o' (fun e => ?_) (i.toInCall.keep b o' q), i.toInCall.fresh⟩, fun n c hc => ?_, i.apart, i.above⟩
    · rw [e, hdn.1] at q; cases q
    · exact ((i.cell n c hc).keeps e1).sameBut hb (Ne.symm (hdn.2.2.1 n c (mem_of_lookup hc)))
  refine ⟨st.put vs hs i' (fun _ _ => rfl) (fun _ _ => rfl) (fun _ _ => rfl) (fun a h => .inl h) (fun b hb' => ?_) (fun b o hb' ho' => keepAll b o ?_ ho') ?_, ?_, fun b o av ho' => keepAll b o (fun e => av.2.2 x (e ▸ hD)) ho', fun _ _ h => .inl h⟩
  · rw [hD] at hb'; cases hb'
    exact ⟨hdn.1, hdn.2.1, hdn.2.2.1, o, us', n, ho, hda⟩
  · rcases hb' with av | ⟨z, hz, hz'⟩
    · exact fun e => av.2.2 x (e ▸ hD)
    · exact fun e => hz (st.di z x a (e ▸ hz') hD)
  · exact ⟨a, us', hv, hD, ⟨o, n, ho, hc, hdi, hda⟩, r.on fun b o xs n av ho' _ => (hb.2 b fun e => av.2.2 x (e ▸ hD)).trans ho'⟩
  · intro b o' ho'
    exact live_of_sameBut hb ho b o' (e1 b o' ho')

theorem Ex1.assign (h : Ev w k ρ e d .cl) (hs : SetIn x (.val d) ρ ρ') (hp : P (.nx ρ')) (hsw : ∀ env, swapsWith e (some (.Name x p)) pos.line env = pure false) : Ex1 w k ρ (.Assign [.Name x p] e pos) P := by
  refine ExG.of fun A s₀ s env D rm st cz tb Q E q1 q2 => ?_
  refine wpAny_Assign_Name (h rm (st.es cz) tb fun v h' tk e1 b1 r => ?_) (hsw env)
  refine store_name (D' := D) (s := s) st hs e1 rfl (fun _ _ => rfl) (fun a h => .inl h) (fun a ha => ?_) (fun h2 m' cm' kp hv tk => ⟨v, hv, ?_⟩) (fun s' x' fr => q1 _ _ _ hp x' fr)
  · obtain ⟨h1, h2, h3, o, xs, n, ho, hd⟩ := st.dn _ a ha
    exact ⟨h1, h2, h3, o, xs, n, e1 _ _ ho, hd⟩
  · exact r.on fun a o xs n av ho hd => kp a o av.1 av.2.1 ho

theorem Ex1.aug {op : Operator} {d0 d1 : PyData} {f1 : Fl} (hm : (x, Sl.val d0) ∈ ρ) (h : Ev w k ρ e d1 f1) (o : Op2 w k (inplaceOp op) d0 d1 d) (hs : SetIn x (.val d) ρ ρ') (hp : P (.nx ρ')) :
    Ex1 w k ρ (.AugAssign (.Name x p) op e pos) P := by
  refine ExG.of fun A s₀ s env D rm st cz tb Q E q1 q2 => ?_
  refine wpAny_AugAssign_Name ?_
  obtain ⟨v1, l1, r1⟩ := (st.es cz).vars _ _ hm
  refine l1 Ext.rfl (h rm (st.es cz) tb fun v2 h'' tk' e2 b2 r2 => ?_)
  refine o (s := { s with heap := h'', toks := tk' }) rm (st.wd.keeps (Ext.trans st.keep e2)) (r1.keeps e2) r2 fun v h3 tk3 e3 r3 => ?_
  have e4 : Ext s.heap h3 := e2.trans e3
  refine store_name (D' := D) (s := s) (tk₁ := tk3) st hs e4 rfl (fun _ _ => rfl) (fun a h => .inl h) (fun a ha => ?_) (fun h2 m' cm' kp hv tk => ⟨v, hv, ?_⟩) (fun s' x' fr => q1 _ _ _ hp x' fr)
  · obtain ⟨h1, h2, h3, o, xs, n, ho, hd⟩ := st.dn _ a ha
    exact ⟨h1, h2, h3, o, xs, n, e4 _ _ ho, hd⟩
  · exact (r3.mono fun a n => (st.es cz).fav a (e2.none n)).on fun a o xs n av ho hd => kp a o av.1 av.2.1 ho

theorem Ex1.assignOwn {lpos : Pos} (h : EvL w k ρ es ds .cl) (hz : ds.length ≤ 16777216) (hs : SetIn x (.own ds) ρ ρ') (hp : P (.nx ρ')) : Ex1 w k ρ (.Assign [.Name x p] (.List es lpos) pos) P := by
  refine ExG.of fun A s₀ s env D rm st cz tb Q E q1 q2 => ?_
  refine wpAny_Assign_Name (List_ (h rm (st.es cz) tb fun vs h' tk e1 b1 r => ?_)) rfl
  refine wpAny_newList ?_ (by rw [sizeLine_eq, r.length]; exact hz)
  have es' := st.es cz
  have hfree : s.heap.get? h'.objs.size = none := e1.none push_free
  have hav := es'.fav _ hfree
  refine store_name (D' := fun z => if z = x then some h'.objs.size else D z) (s := s) (tk₁ := tk) st hs (e1.trans ext_push) rfl (fun z hz => if_neg hz) (fun a ha => ?_) (fun a ha => ?_) (fun h2 m' cm' kp hv tk => ⟨h'.objs.size, vs.toArray, hv, if_pos rfl, ?_, ?_⟩) (fun s' x' fr => q1 _ _ _ hp x' fr)
  · replace ha : (if x = x then some h'.objs.size else D x) = some a := ha
    rw [if_pos rfl] at ha; cases ha; exact .inr hfree
  · replace ha : (if x = x then some h'.objs.size else D x) = some a := ha
    rw [if_pos rfl] at ha; cases ha
    exact ⟨es'.fmi _ hfree, hav.1, hav.2.1, _, vs.toArray, 0, Heap.get?_push_size _ rfl, rfl⟩
  · obtain ⟨o, n, ho, hc⟩ := isList_push (h := h') (vs := vs.toArray) (n := 0)
    exact ⟨o, n, kp _ o hav.1 hav.2.1 ho, hc⟩
  · have r2 : RdL h' (fun a => avOf env D a ∧ a ≠ h'.objs.size) vs ds := r.there fun a o av ho => ⟨av, Nat.ne_of_lt (Heap.lt_size ho)⟩
    rw [List.toList_toArray]
    refine ((r2.keeps (h' := h'.push { cls := .type "list", data := .seq vs.toArray }) ext_push).on fun a o xs n av ho hd => kp a o av.1.1 av.1.2.1 ho).mono fun a av => ⟨av.1.1, av.1.2.1, fun z hz => ?_⟩
    replace hz : (if z = x then some h'.objs.size else D z) = some a := hz
    by_cases hzx : z = x
    · rw [if_pos hzx] at hz; exact av.2 (Option.some.inj hz).symm
    · rw [if_neg hzx] at hz; exact av.1.2.2 z hz

theorem Ex1.append {p1 apos cpos : Pos} (hm : (x, Sl.own ds) ∈ ρ) (h : Ev w k ρ e d .cl) (hz : ds.length ≤ 16777216) (hs : SetIn x (.own (ds ++ [d])) ρ ρ') (hp : P (.nx ρ'))
    (hline : (apos.endLine == cpos.line) = true) (he : ∀ env, starEach [e] env = [(false, eval e env)]) : Ex1 w k ρ (.Expr (.Call (.Attribute (.Name x p1) "append" apos) [e] [] cpos) pos) P := by
  refine ExG.of fun A s₀ s env D rm st cz tb Q E q1 q2 => ?_
  refine wpAny_Expr_any ?_ (interactive_no st.kind) rfl
  refine wpAny_Call_append rfl (by rw [he]; rfl) hline (by rw [he]; rfl) ?_
  obtain ⟨m, cm, i, vs⟩ := st.ic
  obtain ⟨a, us, hv, hD, hl, r⟩ := vs _ _ hm
  refine name_of (VarIs.loads st i hv) ⟨a, us, rfl, hl, ?_⟩ ((st.es cz).dbg hm)
  refine h rm (st.es cz) tb fun v h' tk e1 b1 r1 => ?_
  refine list_append_plainL (s := { s with heap := h', toks := tk }) (hl.keeps e1) (fun h2 hp2 hb2 => ?_) (by rw [sizeLine_eq, ← Array.length_toList, r.length]; exact hz)
  obtain ⟨x', fr⟩ := own_turn (tk := tk) st i vs hs hv hD e1 hp2 hb2 (by rw [Array.toList_push]; exact (r.keeps e1).append (.cons r1 .nil))
  exact q1 _ _ _ hp x' fr

theorem Ex1.setItem {p1 spos : Pos} {idx : Expr} {n : Int} {f1 : Fl} (hm : (x, Sl.own ds) ∈ ρ) (h : Ev w k ρ e d .cl) (hi : Ev w k ρ idx (.int n) f1) (h0 : 0 ≤ n) (hn : n < ds.length) (hz : ds.length ≤ 16777216)
    (hs : SetIn x (.own (ds.set n.toNat d)) ρ ρ') (hp : P (.nx ρ')) (hsw : ∀ env, swapsWith e (some (.Subscript (.Name x p1) idx spos)) pos.line env = pure false) :
    Ex1 w k ρ (.Assign [.Subscript (.Name x p1) idx spos] e pos) P := by
  refine ExG.of fun A s₀ s env D rm st cz tb Q E q1 q2 => ?_
  obtain ⟨m, cm, i, vs⟩ := st.ic
  obtain ⟨a, us, hv, hD, hl, r⟩ := vs _ _ hm
  refine wpAny_Assign_Subscript (h rm (st.es cz) tb fun v h' tk e1 b1 r1 => ?_) (hsw env)
  refine name_of (s := { s with heap := h', toks := tk }) (@Loads.keeps _ _ _ _ _ (VarIs.loads st i hv) e1) ?_ ((st.es cz).dbg hm)
  refine hi (s := { s with heap := h', toks := tk }) rm ((st.es cz).keeps e1) b1 fun vi h'' tk' e2 b2 r2 => ?_
  obtain ⟨t, rfl⟩ := r2.int_inv
  have hlen := r.length
  rw [Array.length_toList] at hlen
  refine setItem_pl (s := { s with heap := h'', toks := tk' }) (hl.keeps (e1.trans e2)) h0 (by omega) (by omega) fun h3 hp3 hb3 => ?_
  obtain ⟨x', fr⟩ := own_turn (tk := tk') st i vs hs hv hD (e1.trans e2) hp3 hb3 (by
    rw [Array.toList_setIfInBounds]
    exact (r.keeps (e1.trans e2)).set _ (r1.keeps e2))
  exact q1 _ _ _ hp x' fr

theorem Ex1.augItem {p1 spos : Pos} {op : Operator} {idx : Expr} {n : Int} {d0 d1 : PyData} {f1 f2 : Fl} (hm : (x, Sl.own ds) ∈ ρ) (hi : Ev w k ρ idx (.int n) f1) (h0 : 0 ≤ n) (hn : n < ds.length) (hz : ds.length ≤ 16777216) (hg : ds[n.toNat]? = some d0)
    (h : Ev w k ρ e d1 f2) (o : Op2 w k (inplaceOp op) d0 d1 d) (hs : SetIn x (.own (ds.set n.toNat d)) ρ ρ') (hp : P (.nx ρ'))
    (ha : ∀ ov iv new, augStore idx ov iv new = (do holding [new, ov, iv] (PySem.setItem ov iv new); release [new, ov, iv] []; pure .next)) :
    Ex1 w k ρ (.AugAssign (.Subscript (.Name x p1) idx spos) op e pos) P := by
  refine ExG.of fun A s₀ s env D rm st cz tb Q E q1 q2 => ?_
  obtain ⟨m, cm, i, vs⟩ := st.ic
  obtain ⟨a, us, hv, hD, hl, r⟩ := vs _ _ hm
  refine wpAny_AugAssign_Subscript_any (name_of (VarIs.loads st i hv) ?_ ((st.es cz).dbg hm)) ha
  refine hi rm (st.es cz) tb fun vi h' tk e1 b1 r1 => ?_
  obtain ⟨t, rfl⟩ := r1.int_inv
  have hlen := r.length
  rw [Array.length_toList] at hlen
  obtain ⟨u, hu, ru⟩ := r.get hg
  refine wpAny_getItem_list (s := { s with heap := h', toks := tk }) (hl.keeps e1).isList h0 (by omega) (x := u) (by simpa using hu) ?_
  refine h (s := { s with heap := h', toks := tk }) rm ((st.es cz).keeps e1) b1 fun v2 h'' tk' e2 b2 r2 => ?_
  refine o (s := { s with heap := h'', toks := tk' }) rm (st.wd.keeps (Ext.trans st.keep (e1.trans e2))) (ru.keeps (e1.trans e2)) r2 fun v3 h3 tk3 e3 r3 => ?_
  have e4 := (e1.trans e2).trans e3
  refine setItem_pl (s := { s with heap := h3, toks := tk3 }) (hl.keeps e4) h0 (by omega) (by omega) fun h5 hp5 hb5 => ?_
  obtain ⟨x', fr⟩ := own_turn (tk := tk3) st i vs hs hv hD e4 hp5 hb5 (by
    rw [Array.toList_setIfInBounds]
    exact (r.keeps e4).set _ (r3.mono fun a n => (st.es cz).fav a ((e1.trans e2).none n)))
  exact q1 _ _ _ hp x' fr

theorem Ex1.ret (h : Ev w k ρ e d .mi) (hp : P (.rt d)) : Ex1 w k ρ (.Return (some e) pos) P := by
  refine ExG.of fun A s₀ s env D rm st cz tb Q E q1 q2 => ?_
  refine wpAny_Return_some (h rm (st.es cz) tb fun v h' tk e1 b1 r => ?_)
  obtain ⟨hh, tt, hsame⟩ := st.same
  exact q2 _ _ _ hp ⟨⟨h', tk, by rw [hsame]⟩, Ext.trans st.keep e1, r⟩

theorem Ex1.ite {test : Expr} {body orelse : List Stmt} {b : Bool} (ht : Tr w k ρ test b) (h1 : b = true → Ex w k ρ body P) (h2 : b = false → Ex w k ρ orelse P) : Ex1 w k ρ (.If test body orelse pos) P := by
  refine ExG.of fun A s₀ s env D rm st cz tb Q E q1 q2 => ?_
  refine wpAny_If (ht rm (st.es cz) tb fun h' tk e1 b1 => ?_)
  have x' := st.grow (tk := tk) e1
  have fr := Fr2.grow (env := env) (D := D) (tk := tk) e1
  have cz' := cz.next fr
  cases b with
  | true => exact h1 rfl rm x' cz' b1 (fun ρ' D' s' p x'' fr' _ => q1 _ _ _ p x'' (fr.trans fr')) q2
  | false => exact h2 rfl rm x' cz' b1 (fun ρ' D' s' p x'' fr' _ => q1 _ _ _ p x'' (fr.trans fr')) q2
end
end PartL7
section PartL8
/-- what a for walks over -/
def It (w : World) (k : Nat) (ρ : List (Str × Sl)) (iter : Expr) (xs : List PyData) : Prop :=
  ∀ ⦃A : Around⦄ ⦃c : Cx⦄ ⦃env : Env⦄ ⦃s : Shared⦄, Room A k → ES w c env ρ s.heap → TB s → ∀ ⦃Q : Value → Shared → Prop⦄ ⦃E : Value → Shared → Prop⦄,
    (∀ I h' tk fp Pi Stp, Ext s.heap h' → 499 ≤ tk → s.heap.get? I = none → Walks prg w A I fp [I] xs.length Pi Stp → Stp 0 h' → (∀ b ∈ fp, b = I ∨ (c.av b ∧ ∃ o, s.heap.get? b = some o)) →
      (∀ i v, Pi i v → ∀ (h : Heap) (P' : Addr → Prop), ∃ d, xs[i]? = some d ∧ Rd h P' v d) → (∀ i h, Stp i h → ∃ o us, h.get? I = some o ∧ o.data = .fields us) → Q (.ref I) { s with heap := h', toks := tk }) →
    wpAny (model prg w) A (eval iter env) (fun x s₁ => wpAny (model prg w) A (pyIter x) Q E s₁) E s

section
variable {w : World} {k : Nat} {ρ ρ' : List (Str × Sl)} {e : Expr} {es : List Expr} {d : PyData} {ds ds' : List PyData} {f g : Fl} {P : Out → Prop} {st : Stmt} {rest : List Stmt} {x : Str} {p pos : Pos}

theorem St.walk {s₀ s' : Shared} {env : Env} {D : Str → Option Addr} {I : Addr} {h1 : Heap} {tk : Nat} (st : St w s₀ env D ρ s') (h0 : s₀.heap.get? I = none) (hav : avOf env D I)
    (hI : ∃ o us, s'.heap.get? I = some o ∧ o.data = .fields us) (keep : ∀ b o, b ≠ I → s'.heap.get? b = some o → h1.get? b = some o) : St w s₀ env D ρ { s' with heap := h1, toks := tk } := by
  obtain ⟨oI, us, hoI, hdI⟩ := hI
  obtain ⟨m, cm, i, vs⟩ := st.ic
  have keepL : ∀ b o (xs : Array Value) (n : Nat), s'.heap.get? b = some o → o.data = .seq xs n → h1.get? b = some o := by
    intro b o xs n ho hd
    refine keep b o (fun e => ?_) ho
    rw [e, hoI] at ho; cases ho
    rw [hdI] at hd; cases hd
  refine ⟨st.wd, st.kind, st.nd, st.nodbg, st.gl, fun z a hz => ?_, st.di, m, cm, ⟨⟨?_, ?_, fun b o q => keep b o (fun e => ?_) (i.toInCall.keep b o q), i.toInCall.fresh⟩, fun n c hc => ?_, i.apart, i.above⟩, fun z t hz => ?_⟩
  · obtain ⟨h1', h2, h3, o, xs, n, ho, hd⟩ := st.dn z a hz
    exact ⟨h1', h2, h3, o, xs, n, keepL a o xs n ho hd, hd⟩
  · obtain ⟨h, t, q⟩ := i.toInCall.same
    exact ⟨h1, tk, by rw [q]⟩
  · obtain ⟨o, e1, ep, ho, r⟩ := i.toInCall.ns
    exact ⟨o, e1, ep, keep _ o (Ne.symm hav.1) ho, r⟩
  · rw [e, h0] at q; cases q
  · obtain ⟨o, ho, hd⟩ := i.cell n c hc
    exact ⟨o, keep c o (Ne.symm (hav.2.1 n c (mem_of_lookup hc))) ho, hd⟩
  · have h := vs z t hz
    cases t with
    | free => exact h
    | val d => obtain ⟨v, hv, r⟩ := h; exact ⟨v, hv, r.on fun a o xs n _ ho hd => keepL a o xs n ho hd⟩
    | own ds =>
      obtain ⟨a, us, hv, hDa, ⟨o, n, ho, hc, hn, hd⟩, r⟩ := h
      exact ⟨a, us, hv, hDa, ⟨o, n, keepL a o us n ho hd, hc, hn, hd⟩, r.on fun a o xs n _ ho hd => keepL a o xs n ho hd⟩
    | glob v => exact @h

theorem Ex1.for {iter : Expr} {body : List Stmt} {xs : List PyData} (hit : It w k ρ iter xs) (J : Nat → List (Str × Sl) → Prop) (h0 : J 0 ρ)
    (turn : ∀ i ρi d, J i ρi → xs[i]? = some d → ∃ ρ1, SetIn x (.val d) ρi ρ1 ∧ Ex w k ρ1 body (fun o => match o with | .nx ρ' => J (i + 1) ρ' | .rt d => P (.rt d)))
    (fin : ∀ ρ', J xs.length ρ' → P (.nx ρ')) (hs : ∀ env x, foldedSetIterable iter env x = pure x) : Ex1 w k ρ (.For (.Name x p) iter body [] pos) P := by
  refine ExG.of fun A s₀ s env D rm st cz tb Q E q1 q2 => ?_
  refine wpAny_For ?_ (hs env)
  have es := st.es cz
  refine hit rm es tb fun I h' tk fp Pi Stp e1 b1 hfree W hst hfp hP hfld => ?_
  have hI0 : s₀.heap.get? I = none := Ext.none st.keep hfree
  refine codeAny_forLoop (fun n s' => ∃ i ρi Di, J i ρi ∧ St w s₀ env Di ρi s' ∧ Fr2 env D Di s s' ∧ Stp i s'.heap ∧ i ≤ xs.length ∧ n = xs.length + 1 - i ∧ avOf env Di I ∧ CellsThere env s' ∧ TB s') ?_ (xs.length + 1)
    ⟨0, ρ, D, h0, st.grow e1, Fr2.grow e1, hst, Nat.zero_le _, rfl, es.fav I hfree, cz.next (Fr2.grow (D := D) e1), b1⟩
  rintro n s' ⟨i, ρi, Di, hJ, st', fr, hsti, hi, rfl, hav, cz', tb'⟩
  have walked : ∀ h1 tk1, (∀ b o, b ∉ [I] → s'.heap.get? b = some o → h1.get? b = some o) → St w s₀ env Di ρi { s' with heap := h1, toks := tk1 } ∧ Fr2 env D Di s { s' with heap := h1, toks := tk1 } := by
    intro h1 tk1 hk
    have hk' : ∀ b o, b ≠ I → s'.heap.get? b = some o → h1.get? b = some o := fun b o hb ho => hk b o (by simpa using hb) ho
    refine ⟨st'.walk hI0 hav (hfld i _ hsti) hk', fun b o ho => ?_, fun b o av ho => hk' b o (fun e => ?_) (fr.keep b o av ho), fr.dnew⟩
    · by_cases hb : b = I
      · rw [hb, hfree] at ho; cases ho
      · obtain ⟨o', ho'⟩ := fr.live b o ho
        exact ⟨o', hk' b o' hb ho'⟩
    · rw [e, hfree] at ho; cases ho
  by_cases hlt : i < xs.length
  · refine asm tb' (W.item i _ _ _ hlt hsti fun v h1 tk1 hPv hst1 hk1 b1 => ?_)
    obtain ⟨oI, _, hoI, _⟩ := hfld (i + 1) h1 hst1
    obtain ⟨st1, fr1⟩ := walked h1 tk1 hk1
    obtain ⟨d, hd, hr⟩ := hP i v hPv h1 (avOf env Di)
    obtain ⟨ρ1, hset, hbody⟩ := turn i ρi d hJ hd
    have cz1 : CellsThere env { s' with heap := h1, toks := tk1 } := cz.next fr1
    refine wpAny_assign_Name (asm (s := { s' with heap := h1, toks := tk1 }) b1 (store_name (D' := Di) (s := { s' with heap := h1, toks := tk1 }) (h₁ := h1) (tk₁ := tk1) st1 hset Ext.rfl rfl (fun _ _ => rfl) (fun a h => .inl h) (fun a ha => st1.dn _ a ha) (fun h2 m' cm' kp hv tk => ⟨v, hv, ?_⟩) (fun s2 st2 fr2 tb2 => ?_)))
    · exact hr.on fun a o xs n av ho hd => kp a o av.1 av.2.1 ho
    · refine hbody rm st2 (cz1.next fr2) tb2 (fun ρ3 D3 s3 hJ3 st3 fr3 tb3 => ?_) fun d v s3 hp hr => q2 d v s3 hp hr
      have fr13 := fr2.trans fr3
      have keepI : ∀ b ∈ fp, ∀ o, h1.get? b = some o → s3.heap.get? b = some o := by
        intro b hb o ho
        refine fr13.keep b o ?_ ho
        rcases hfp b hb with rfl | ⟨av, o', ho'⟩
        · exact hav
        · refine ⟨av.1, av.2.1, fun y hy => ?_⟩
          rcases fr.dnew y b hy with q | q
          · exact av.2.2 y q
          · rw [ho'] at q; cases q
      refine ⟨xs.length + 1 - (i + 1), by omega, i + 1, ρ3, D3, hJ3, st3, fr1.trans fr13, W.frame _ _ _ hst1 keepI, hlt, rfl, ⟨hav.1, hav.2.1, fun y hy => ?_⟩, (cz1.next fr2).next fr3, tb3⟩
      rcases fr13.dnew y I hy with q | q
      · exact hav.2.2 y q
      · rw [hoI] at q; cases q
  · have hin : i = xs.length := by omega
    subst hin
    refine W.done _ _ _ hsti fun h1 tk1 hk1 => ?_
    obtain ⟨st1, fr1⟩ := walked h1 tk1 hk1
    exact wpAny_execs_nil (q1 _ _ _ (fin _ hJ) st1 fr1)

theorem Ex1.while {test : Expr} {body : List Stmt} (J : Nat → List (Str × Sl) → Prop) (n : Nat) (h0 : J n ρ)
    (turn : ∀ n ρi, J n ρi → ∃ b, Tr w k ρi test b ∧ (b = true → Ex w k ρi body (fun o => match o with | .nx ρ' => ∃ m, m < n ∧ J m ρ' | .rt d => P (.rt d))) ∧ (b = false → P (.nx ρi))) :
    Ex1 w k ρ (.While test body [] pos) P := by
  refine ExG.of fun A s₀ s env D rm st cz tb Q E q1 q2 => ?_
  refine wpAny_While ?_
  refine codeAny_whileLoop (fun n s' => ∃ ρi Di, J n ρi ∧ St w s₀ env Di ρi s' ∧ Fr2 env D Di s s' ∧ CellsThere env s' ∧ TB s') ?_ n ⟨ρ, D, h0, st, Fr2.refl, cz, tb⟩
  rintro n s' ⟨ρi, Di, hJ, st', fr, cz', tb'⟩
  obtain ⟨b, ht, hb, hq⟩ := turn n ρi hJ
  refine ht rm (st'.es cz') tb' fun h1 tk1 e1 b1 => ?_
  have st1 := st'.grow (tk := tk1) e1
  have fr1 := fr.trans (Fr2.grow (env := env) (D := Di) (tk := tk1) e1)
  have cz1 := cz.next fr1
  cases b with
  | true =>
    refine hb rfl rm st1 cz1 b1 (fun ρ3 D3 s3 hJ3 st3 fr3 tb3 => ?_) fun d v s3 hp hr => q2 d v s3 hp hr
    obtain ⟨m, hm, hJm⟩ := hJ3
    exact ⟨m, hm, ρ3, D3, hJm, st3, fr1.trans fr3, cz1.next fr3, tb3⟩
  | false => exact wpAny_execs_nil (q1 _ _ _ (hq rfl) st1 fr1)
end
end PartL8
section PartL9
def upI (n : Nat) : List PyData := (List.range n).map fun (i : Nat) => .int (i : Int)
def downI (n : Nat) : List PyData := (List.range n).map fun (i : Nat) => .int ((n : Int) - 1 - (i : Int))
theorem upI_len (n : Nat) : (upI n).length = n := by simp [upI]
theorem downI_len (n : Nat) : (downI n).length = n := by simp [downI]
theorem upI_get {n i : Nat} {d : PyData} (h : (upI n)[i]? = some d) : i < n ∧ d = .int (i : Int) := by
  have hi : i < n := by have := (List.getElem?_eq_some_iff.mp h).1; simpa [upI] using this
  refine ⟨hi, ?_⟩
  simp [upI, List.getElem?_map, List.getElem?_range hi] at h
  exact h.symm
theorem downI_get {n i : Nat} {d : PyData} (h : (downI n)[i]? = some d) : i < n ∧ d = .int ((n : Int) - 1 - (i : Int)) := by
  have hi : i < n := by have := (List.getElem?_eq_some_iff.mp h).1; simpa [downI] using this
  refine ⟨hi, ?_⟩
  simp [downI, List.getElem?_map, List.getElem?_range hi] at h
  exact h.symm

section
variable {w : World} {k : Nat} {ρ ρ' : List (Str × Sl)} {e : Expr} {es : List Expr} {d : PyData} {ds ds' : List PyData} {f g : Fl} {P : Out → Prop} {st : Stmt} {rest : List Stmt} {x : Str} {p pos : Pos}

theorem range_walk {A : Around} {c : Cx} {env : Env} {s : Shared} {xs : List PyData} {a b st : Int} {n : Nat} {r : Addr} {t u v : Tok} {Q : Value → Shared → Prop} {E : Value → Shared → Prop} {h1 : Heap} {tk1 : Nat} (rm : Room A k) (_es : ES w c env ρ s.heap)
    (e1 : Ext s.heap h1) (hr : IsRange h1 r a b st t u v) (hsmall : Builtin.Range.small a b st = true) (hsz : Builtin.Range.rangeSize a b st = (n : Int)) (hx : xs.length = n) (hg : ∀ i, i < n → xs[i]? = some (.int (a + i * st)))
    (b1 : 499 ≤ tk1) (q : ∀ I h' tk fp Pi Stp, Ext s.heap h' → 499 ≤ tk → s.heap.get? I = none → Walks prg w A I fp [I] xs.length Pi Stp → Stp 0 h' → (∀ b ∈ fp, b = I ∨ (c.av b ∧ ∃ o, s.heap.get? b = some o)) →
      (∀ i v, Pi i v → ∀ (h : Heap) (P' : Addr → Prop), ∃ d, xs[i]? = some d ∧ Rd h P' v d) → (∀ i h, Stp i h → ∃ o us, h.get? I = some o ∧ o.data = .fields us) → Q (.ref I) { s with heap := h', toks := tk }) :
    wpAny (model prg w) A (pyIter (.ref r)) Q E { s with heap := h1, toks := tk1 } := by
  refine wpAny_pyIter_range (s := { s with heap := h1, toks := tk1 }) hr hsmall ?_
  have W := Walks.range (prog := prg) (w := w) rm.hd h1.objs.size a st n
  have hfr : s.heap.get? h1.objs.size = none := e1.none push_free
  refine q h1.objs.size _ tk1 [h1.objs.size] (fun i v => i < n ∧ ∃ t, v = .int (a + i * st) t) (fun i h => IsRangeIter h h1.objs.size (a + (i : Nat) * st) ((n : Int) - (i : Nat)) st) (e1.trans ext_push) b1 hfr ?_ ?_ (fun b hb => .inl (by simpa using hb)) ?_ ?_
  · rw [hx]
    exact ⟨W.sub, W.frame, fun i s Q E hi sti hQ => W.item i s Q E hi sti fun v h' tk hP => hQ v h' tk ⟨hi, hP⟩, W.done, W.self⟩
  · have := Heap.get?_push_size h1 (o := { cls := .type "range_iterator", data := .fields #[rawInt a, rawInt (Builtin.Range.rangeSize a b st), rawInt st] }) rfl
    rw [hsz] at this
    show IsRangeIter _ _ (a + ((0 : Nat) : Int) * st) ((n : Int) - ((0 : Nat) : Int)) st
    rw [hsz]
    simpa using this
  · rintro i v ⟨hi, t, rfl⟩ h P'
    exact ⟨_, hg i hi, .int _ _⟩
  · intro i h hh
    exact ⟨_, _, hh, rfl⟩

theorem It.range1 {n : Nat} (hm : (Str.ofString "range", Sl.glob (.type "range")) ∈ ρ) (h : Ev w k ρ e (.int (n : Int)) f) (hn : n < 2 ^ 62)
    (he : ∀ env, starEach [e] env = (false, eval e env) :: starEach [] env) : It w k ρ (.Call (.Name (Str.ofString "range") p) [e] [] pos) (upI n) := by
  intro A c env s rm es tb Q E q
  refine Call_ (name_of (es.vars _ _ hm) ?_ (es.dbg hm))
  refine callWith_L (P := fun _ => True) (fun h x => ⟨.machine, .inr (.inl rfl), Looks.of_pure rfl⟩) ((EvL.cons h.toAn EvL.nil he) rm es tb fun vs h' tk e1 b1 r1 => ⟨trivial, ?_⟩) (he env) rfl
  obtain ⟨v, rfl, r2⟩ := r1.one_inv
  obtain ⟨t, rfl⟩ := r2.int_inv
  refine call_range_1 (s := { s with heap := h', toks := tk }) ?_
  refine range_walk (s := s) (n := n) rm es (e1.trans ext_push) (IsRange.new ..) (small_one (by decide) (by decide) (by omega) (by omega)) ?_ (upI_len n) (fun i hi => ?_) ?_ q
  · rw [rangeSize_one]; split <;> omega
  · simp [upI, List.getElem?_map, List.getElem?_range hi]
  · first | exact b1 | exact Nat.le_succ_of_le b1 | exact Nat.le_succ_of_le (Nat.le_succ_of_le b1) | exact Nat.le_succ_of_le (Nat.le_succ_of_le (Nat.le_succ_of_le b1))

theorem It.range3 {e1 e2 e3 : Expr} {n : Nat} (hm : (Str.ofString "range", Sl.glob (.type "range")) ∈ ρ) (h : EvL w k ρ [e1, e2, e3] [.int ((n : Int) - 1), .int (-1), .int (-1)] .an) (hn : n < 2 ^ 61)
    (he : ∀ env, starEach [e1, e2, e3] env = (false, eval e1 env) :: starEach [e2, e3] env) (hp : ∀ env, (backTo pos (starEach [e2, e3] env)).any (·.1) = false) : It w k ρ (.Call (.Name (Str.ofString "range") p) [e1, e2, e3] [] pos) (downI n) := by
  intro A c env s rm es tb Q E q
  refine Call_ (name_of (es.vars _ _ hm) ?_ (es.dbg hm))
  refine callWith_L (P := fun _ => True) (fun h x => ⟨.machine, .inr (.inl rfl), Looks.of_pure rfl⟩) (h rm es tb fun vs h' tk e1 b1 r1 => ⟨trivial, ?_⟩) (he env) (hp env)
  obtain ⟨v, us, rfl, r2, r3⟩ := r1.cons_inv
  obtain ⟨v2, v3, rfl, r4, r5⟩ := r3.two_inv
  obtain ⟨t, rfl⟩ := r2.int_inv
  obtain ⟨t2, rfl⟩ := r4.int_inv
  obtain ⟨t3, rfl⟩ := r5.int_inv
  refine call_range_3 (s := { s with heap := h', toks := tk }) (by decide) ?_ (.inl (PyProof.noPylong_small (by decide)))
  have hsz : Builtin.Range.rangeSize ((n : Int) - 1) (-1) (-1) = (n : Int) := by
    unfold Builtin.Range.rangeSize
    rw [if_neg (by decide)]
    split
    · rw [show (- (-1 : Int)) = 1 from rfl, Int.ediv_one]; omega
    · omega
  refine range_walk (s := s) (n := n) rm es (e1.trans ext_push) (IsRange.new ..) ?_ hsz (downI_len n) (fun i hi => ?_) ?_ q
  · unfold Builtin.Range.small
    rw [hsz]
    simp only [Builtin.Range.rangeFitsLong, Bool.and_eq_true, Bool.or_eq_true, decide_eq_true_eq, beq_iff_eq, show ¬ ((-1 : Int) > 0) by decide, if_false]
    omega
  · simp [downI, List.getElem?_map, List.getElem?_range hi]
    omega
  · first | exact b1 | exact Nat.le_succ_of_le b1 | exact Nat.le_succ_of_le (Nat.le_succ_of_le b1) | exact Nat.le_succ_of_le (Nat.le_succ_of_le (Nat.le_succ_of_le b1))

theorem It.name (hm : (x, Sl.val (.list ds)) ∈ ρ) (ha : ds.all atom = true) : It w k ρ (.Name x p) ds := by
  intro A c env s rm es tb Q E q
  obtain ⟨v, l, r1⟩ := es.vars _ _ hm
  refine name_of l ?_ (es.dbg hm)
  obtain ⟨a, us, rfl, hl, r, hav⟩ := r1.list_inv
  refine wpAny_pyIter_list hl.isList ?_
  have hlen := r.length
  rw [Array.length_toList] at hlen
  obtain ⟨oa, na, hoa, _⟩ := id hl
  have hne : a ≠ s.heap.objs.size := Nat.ne_of_lt (Heap.lt_size hoa)
  have W := Walks.list (prog := prg) (w := w) rm.hd s.heap.objs.size a hne us
  refine q s.heap.objs.size _ s.toks [s.heap.objs.size, a] _ _ ext_push tb push_free (hlen ▸ W) ⟨⟨_, Heap.get?_push_size _ rfl, rfl, rfl⟩, hl.isList.push _⟩ ?_ ?_ ?_
  · intro b hb
    rcases List.mem_cons.mp hb with rfl | hb
    · exact .inl rfl
    · rw [List.mem_singleton.mp hb]
      exact .inr ⟨hav, oa, hoa⟩
  · intro i v hv h2 P'
    obtain ⟨d, hd, hr⟩ := r.get' (i := i) (v := v) (by simpa using hv)
    exact ⟨d, hd, hr.of_atom_heap (List.all_eq_true.mp ha d (List.mem_of_getElem? hd))⟩
  · rintro i h ⟨⟨o, ho, _, hd⟩, _⟩
    exact ⟨o, _, ho, hd⟩
end

/-- a name of the top, or a built-in's -/
def GlobOk (w : World) (sc : Scope) (x : Str) (v : Value) : Prop :=
  sc.names.lookup x = some .globalImplicit ∧ (nsIn (MineHead.heapK w.params) mainGlobals x = some (some v) ∨ (nsIn (MineHead.heapK w.params) mainGlobals x = some none ∧ bootBuiltins x = some v ∧ x ≠ "__name__"))
theorem GlobOk.loads {w : World} {env : Env} {h : Heap} {x : Str} {v : Value} (g : GlobOk w env.scope x v) (wd : Wd w h) (hk : env.scope.kind = .function) (hg : env.globals = mainGlobals) (hb : env.builtins = builtinsNs) : Loads env h x v := by
  intro M A s Q E e q
  obtain ⟨p, lo, me, mg, mb, T⟩ := wd.T
  unfold loadName
  have hx : env.kindOf x = some .globalImplicit := g.1
  simp only [Env.blockKind, hk, hx, ScopeKind.isAnnotationScope, Bool.false_and, Bool.false_eq_true, if_false]
  rcases g.2 with h1 | ⟨h1, h2, h3⟩
  · exact loadGlobal_global (hg ▸ T.g.keeps e) (mg_of wd.X T.g h1) q
  · exact loadGlobal_builtin (hg ▸ T.g.keeps e) (mg_none_of wd.X T.g h1) (hb ▸ T.b.keeps e) ((T.builtins x h3).trans h2) q

theorem zip_lookup {ps : List Str} : ∀ {vs : List Value} {x : Str} {v : Value}, ps.Nodup → (x, v) ∈ ps.zip vs → (ps.zip vs).reverse.lookup x = some v := by
  induction ps with
  | nil => intro vs x v _ h; simp at h
  | cons p ps ih =>
    intro vs x v nd h
    cases vs with
    | nil => simp at h
    | cons u us =>
      simp only [List.nodup_cons] at nd
      simp only [List.zip_cons_cons, List.mem_cons] at h
      rw [List.zip_cons_cons, List.reverse_cons, List.lookup_append]
      rcases h with e | h
      · cases e
        have : (ps.zip us).reverse.lookup p = none := by
          cases q : (ps.zip us).reverse.lookup p with
          | none => rfl
          | some v' =>
            have := mem_of_lookup q
            exact absurd (List.of_mem_zip (List.mem_reverse.mp this)).1 nd.1
        rw [this]
        simp [List.lookup_cons]
      · rw [ih nd.2 h]; rfl

theorem zip_slot {h : Heap} {P : Addr → Prop} : ∀ {ps : List Str} {vs : List Value} {ds : List PyData} {x : Str} {sl : Sl}, RdL h P vs ds → (x, sl) ∈ (ps.zip ds).map (fun y => (y.1, Sl.val y.2)) → ∃ v d, sl = .val d ∧ (x, v) ∈ ps.zip vs ∧ Rd h P v d
  | [], vs, ds, x, sl, _, hm => by simp at hm
  | p :: ps, vs, [], x, sl, _, hm => by simp at hm
  | p :: ps, vs, d :: ds, x, sl, r, hm => by
    obtain ⟨v, us, rfl, a, b⟩ := r.cons_inv
    simp only [List.zip_cons_cons, List.map_cons, List.mem_cons] at hm
    rcases hm with e | hm
    · cases e; exact ⟨v, d, rfl, by simp, a⟩
    · obtain ⟨v', d', e, hz, hr⟩ := zip_slot b hm
      exact ⟨v', d', e, by rw [List.zip_cons_cons]; exact .tail _ hz, hr⟩

/-- a def of the text -/
theorem fn_def {w : World} {k : Nat} {a : Addr} {oc : Value} {od : Option Addr} {name qual : Str} {params : Arguments} {body : List Stmt} {scope : Scope} {dV kV doc pm cdv ct : Value} {an : Option Addr} {osl : Array (Option Value)} {ps ls : List Str} {gs : List (Str × Value)} {ds : List PyData} {d : PyData}
    (ho : (MineHead.heapK w.params).lookup a = some ⟨oc, od, .func (fnOf name qual params body scope dV kV doc pm an cdv ct), osl⟩) (hcd : codeIn (MineHead.heapK w.params) cdv qual = true) (hk : keepIn (MineHead.heapK w.params) (.ref a) = true)
    (hbind : ∀ (s : Shared) vs, vs.length = ps.length → BindsTo s (fnOf name qual params body scope dV kV doc pm an cdv ct) ⟨vs, []⟩ (ps.zip vs))
    (hcell : ∀ x ∈ scope.names, x.2 ≠ .cell) (hps : ∀ x ∈ ps, scope.names.lookup x = some .local) (hls : ∀ x ∈ ls, scope.names.lookup x = some .local) (hgs : ∀ g ∈ gs, GlobOk w scope g.1 g.2)
    (hnd : (ps ++ ls ++ gs.map (·.1)).Nodup) (hdb : ∀ x ∈ ps ++ ls ++ gs.map (·.1), (x == ("__debug__" : Str)) = false) (hlen : ds.length = ps.length)
    (hb : Ex w k ((ps.zip ds).map (fun y => (y.1, Sl.val y.2)) ++ ls.map (fun x => (x, Sl.free)) ++ gs.map (fun g => (g.1, Sl.glob g.2))) body (fun o => match o with | .rt d' => d' = d | .nx _ => False))
    (hco : scope.isCoroutine = false := by rfl) (hgen : scope.isGenerator = false := by rfl) (hkf : scope.kind = .function := by rfl) : Fn w (k + 1) (.ref a) ds d where
  keep := fun h x => keeps_K hk h x.X
  run := by
    intro A s P vs rm wd tb r Q E q
    obtain ⟨p, lo, me, mg, mb, T⟩ := wd.T
    have hvl : vs.length = ps.length := r.length.trans hlen
    refine wpAny_call (codeAny_call_def (fd := fnOf name qual params body scope dV kV doc pm an cdv ct) (body := body) (binds := ps.zip vs) (by have := rm.dep; omega) (wd.X _ _ ho) rfl T.nolimit (codeRec_of wd.X hcd) rfl (hbind s vs hvl) hcell ?_ (fun h₁ hns hk₁ => ?_) hco hgen hkf)
    · intro y hy; exact hps _ (List.of_mem_zip hy).1
    have hnd3 : (ps ++ ls ++ gs.map (·.1)) = ((ps.zip ds).map (fun y => (y.1, Sl.val y.2)) ++ ls.map (fun x => (x, Sl.free)) ++ gs.map (fun g => (g.1, Sl.glob g.2))).map (·.1) := by
      simp only [List.map_append, List.map_map]
      congr 1
      · congr 1
        · rw [show ((fun x : Str × Sl => x.1) ∘ fun y : Str × PyData => (y.1, Sl.val y.2)) = (fun y => y.1) from rfl, List.map_fst_zip (by omega)]
        · rw [show ((fun x : Str × Sl => x.1) ∘ fun x : Str => (x, Sl.free)) = id from rfl, List.map_id]
    have hpn : ps.Nodup := (List.nodup_append.mp (List.nodup_append.mp hnd).1).1
    have hLs : ∀ b o, s.heap.get? b = some o → b ≠ s.heap.objs.size := fun b o e => Nat.ne_of_lt (Heap.lt_size e)
    have st : St w s (callEnv (fnOf name qual params body scope dV kV doc pm an cdv ct) s.heap.objs.size a) (fun _ => none) ((ps.zip ds).map (fun y => (y.1, Sl.val y.2)) ++ ls.map (fun x => (x, Sl.free)) ++ gs.map (fun g => (g.1, Sl.glob g.2))) { s with heap := h₁, toks := s.toks + (ps.zip vs).length } := by
      refine ⟨wd, hkf, hnd3 ▸ hnd, hnd3 ▸ hdb, ⟨rfl, rfl⟩, (fun _ _ h => nomatch h), (fun _ _ _ h => nomatch h), (fun x => (ps.zip vs).reverse.lookup x), (fun _ => none), ⟨⟨⟨h₁, _, rfl⟩, hns, hk₁, Nat.le_refl _⟩, (fun _ _ h => nomatch h), List.Pairwise.nil, (fun _ _ h => nomatch h)⟩, fun x sl hm => ?_⟩
      rcases List.mem_append.mp hm with hm | hm
      · rcases List.mem_append.mp hm with hm | hm
        · obtain ⟨v, d, rfl, hz, hr⟩ := zip_slot r hm
          refine ⟨v, .inl ⟨hps x (List.of_mem_zip hz).1, zip_lookup hpn hz⟩, ?_⟩
          exact (hr.there fun a o _ ho => ⟨hLs a o ho, (fun _ _ h => nomatch h), fun _ h => nomatch h⟩).keeps hk₁
        · obtain ⟨y, hy, e⟩ := List.mem_map.mp hm
          cases e
          exact .inl (hls x hy)
      · obtain ⟨g, hg, e⟩ := List.mem_map.mp hm
        cases e
        exact @GlobOk.loads w (callEnv (fnOf name qual params body scope dV kV doc pm an cdv ct) s.heap.objs.size a) s.heap g.1 g.2 (hgs g hg) wd hkf rfl rfl
    refine hb (rm.deeper _) st (fun _ _ h => nomatch h) (Nat.le_trans tb (Nat.le_add_right _ _)) (fun _ _ _ h => h.elim) fun d' v s' hd hr => ?_
    subst hd
    obtain ⟨⟨h', tk, rfl⟩, he, hr⟩ := hr
    exact q v h' tk he hr
end PartL9
section PartHs
local macro_rules | `(tactic| tb_rel) => `(tactic| first
  | with_reducible (first
      | refine wpAny_pure ?_ | refine wpAny_bind ?_ | refine wpAny_holding ?_ | refine wpAny_standAt ?_ | refine wpAny_point ?_ | refine wpAny_rule ?_
      | refine wpAny_letGo ?_ | refine wpAny_mkInt' ?_ | refine wpAny_mkStr' ?_ | refine wpAny_fresh' ?_ | refine wpAny_alloc' ?_ | refine wpAny_attempt ?_
      | refine wpAny_throw ?_
      | refine wpAny_of_eq (by assumption) ?_ | refine wpAny_typeOf (by assumption) ?_
      | refine wpAny_specialOf_val (by assumption) (by assumption) ?_ | refine wpAny_specialOf (by assumption) (by assumption) ?_
      | refine wpAny_isInstance_val (by assumption) (by assumption) ?_ | refine wpAny_isInstance (by assumption) (by assumption) ?_
      | refine wpAny_call ?_ | refine wpAny_runValue ?_ | refine wpAny_run ?_)
  | wp_delta
  | ((with_reducible apply wpAny_load'); focus (heap_get; done))
  | ((with_reducible apply wpAny_update'); focus (heap_get; done))
  | ((with_reducible apply wpAny_loadPart'); focus (heap_get; done))
  | ((with_reducible apply wpAny_updatePart'); focus (heap_get; done))
  | ((with_reducible apply wpAny_handled_none); focus (assumption; done))
  | ((with_reducible apply wpAny_ite_false); focus (rfl; done))
  | ((with_reducible apply wpAny_ite_true); focus (rfl; done))
  | ((with_reducible apply wpAny_ite_false); focus (simp [*]; done))
  | ((with_reducible apply wpAny_ite_true); focus (simp [*]; done))
  | with_reducible_and_instances refine wpAny_pure ?_
  | with_reducible_and_instances refine wpAny_bind ?_)
theorem hs_kind : builtinKind "hasattr" = none := by decide +kernel
theorem hs_plain : plainId "hasattr" = true := by decide +kernel
theorem hs_entry : entryFor table "hasattr" = some Builtin.«hasattr» := entryFor_of_fast (by kernel_rfl)
theorem hs_args (a b : Value) : argsOk "hasattr" ⟨[a, b], []⟩ := by unfold argsOk; kernel_rfl
theorem hs_lk_str : typeLookup (.type "str") "__getitem__" = pure (some (.builtin "str.__getitem__")) := by rw [typeLookup_type, builtinLookup_eq_fast]; kernel_rfl
theorem hs_lk_list : typeLookup (.type "list") "__getitem__" = pure (some (.builtin "list.__getitem__")) := by rw [typeLookup_type, builtinLookup_eq_fast]; kernel_rfl
theorem hs_t_str : typeOf (.builtin "str.__getitem__") = pure (.type "wrapper_descriptor") := by show builtinType _ = _; rw [builtinType_eq_fast]; kernel_rfl
theorem hs_t_list : typeOf (.builtin "list.__getitem__") = pure (.type "method_descriptor") := by show builtinType _ = _; rw [builtinType_eq_fast]; kernel_rfl
theorem hs_get_w : typeLookup (.type "wrapper_descriptor") "__get__" = pure (some (.builtin "wrapper_descriptor.__get__")) := by rw [typeLookup_type, builtinLookup_eq_fast]; kernel_rfl
theorem hs_set_w : typeLookup (.type "wrapper_descriptor") "__set__" = pure none := by rw [typeLookup_type, builtinLookup_eq_fast]; kernel_rfl
theorem hs_del_w : typeLookup (.type "wrapper_descriptor") "__delete__" = pure none := by rw [typeLookup_type, builtinLookup_eq_fast]; kernel_rfl
theorem hs_get_m : typeLookup (.type "method_descriptor") "__get__" = pure (some (.builtin "method_descriptor.__get__")) := by rw [typeLookup_type, builtinLookup_eq_fast]; kernel_rfl
theorem hs_set_m : typeLookup (.type "method_descriptor") "__set__" = pure none := by rw [typeLookup_type, builtinLookup_eq_fast]; kernel_rfl
theorem hs_del_m : typeLookup (.type "method_descriptor") "__delete__" = pure none := by rw [typeLookup_type, builtinLookup_eq_fast]; kernel_rfl
theorem hs_slot_w : Slot "wrapper_descriptor" "__get__" "wrapper_descriptor.__get__" :=
  .of (owner := "wrapper_descriptor") (n := "__get__") (by rw [typeLookup_type, builtinLookup_eq_fast]; kernel_rfl) (by decide +kernel) (by decide +kernel) (by decide +kernel)
    (by first | exact .inl (by decide +kernel) | exact .inr (by decide +kernel)) (by rw [isSubtype_type]; kernel_rfl)
theorem hs_slot_m : Slot "method_descriptor" "__get__" "method_descriptor.__get__" :=
  .of (owner := "method_descriptor") (n := "__get__") (by rw [typeLookup_type, builtinLookup_eq_fast]; kernel_rfl) (by decide +kernel) (by decide +kernel) (by decide +kernel)
    (by first | exact .inl (by decide +kernel) | exact .inr (by decide +kernel)) (by rw [isSubtype_type]; kernel_rfl)
theorem hs_entry_w : entryFor table "wrapper_descriptor.__get__" = some Builtin.«wrapper_descriptor.__get__» := entryFor_of_tree (by kernel_rfl)
theorem hs_entry_m : entryFor table "method_descriptor.__get__" = some Builtin.«method_descriptor.__get__» := entryFor_of_tree (by kernel_rfl)
theorem hs_args_w (a b c : Value) : argsOk "wrapper_descriptor.__get__" ⟨[a, b, c], []⟩ := by unfold argsOk; kernel_rfl
theorem hs_args_m (a b c : Value) : argsOk "method_descriptor.__get__" ⟨[a, b, c], []⟩ := by unfold argsOk; kernel_rfl
theorem hs_own_str : (".".intercalate ("str.__getitem__".cutAt '.').dropLast) = "str" := by
  have e0 : "str.__getitem__".cutAt '.' = ["str", "__getitem__"] := by first | rfl | decide +kernel
  rw [e0]; decide +kernel
theorem hs_own_list : (".".intercalate ("list.__getitem__".cutAt '.').dropLast) = "list" := by
  have e0 : "list.__getitem__".cutAt '.' = ["list", "__getitem__"] := by first | rfl | decide +kernel
  rw [e0]; decide +kernel
theorem hs_sub_str : isSubtype (.type "str") (.type (".".intercalate ("str.__getitem__".cutAt '.').dropLast)) = pure true := by
  rw [hs_own_str, isSubtype_type]; kernel_rfl
theorem hs_sub_list : isSubtype (.type "list") (.type (".".intercalate ("list.__getitem__".cutAt '.').dropLast)) = pure true := by
  rw [hs_own_list, isSubtype_type]; kernel_rfl
section
variable {prog : Program} {w : World} {A : Around} {E : Value → Shared → Prop} {h : Heap} {g : Array GenState} {d : Drawn} {t : Nat} {os : OsState} {x : Str} {u tk : Tok}

theorem hs_bind_str {R : Result → Shared → Prop} (hq : ∀ b h' t', (∀ b o, h.get? b = some o → h'.get? b = some o) → R (.ok (.ret (.ref b))) ⟨h', g, d, t', os⟩) :
    codeAny (model prog w) A (.call (.builtin "wrapper_descriptor.__get__") ⟨[.builtin "str.__getitem__", .str x u, .type "str"], []⟩) R ⟨h, g, d, t, os⟩ := by
  have hT : (⟨h, g, d, t, os⟩ : Shared).TypeIs (.str x u) "str" := rfl
  have hT5 : (⟨h, g, d, t, os⟩ : Shared).TypeIs (.builtin "str.__getitem__") "wrapper_descriptor" := hs_t_str
  have f8 := hs_sub_str
  refine codeAny_call_builtin hs_slot_w.plain hs_entry_w (hs_slot_w.check _ _ _ _ _ _ _ _ hT5 (hs_args_w _ _ _) ?_)
  repeat (any_goals (first | assumption | tb_rel))
  exact hq _ _ _ fun _ _ e => Heap.get?_push_of_some _ e

theorem hs_entry_str {Q : Fin → Shared → Prop} (hq : ∀ b h' t', (∀ b o, h.get? b = some o → h'.get? b = some o) → Q (.done (.ret (.ref b))) ⟨h', g, d, t', os⟩) :
    wpAny (model prog w) A (Builtin.«object.__getattribute__» ⟨[.str x u, .str "__getitem__" tk], []⟩) Q E ⟨h, g, d, t, os⟩ := by
  have hT : (⟨h, g, d, t, os⟩ : Shared).TypeIs (.str x u) "str" := rfl
  have f4 := hs_lk_str
  have f5 := hs_t_str
  have f6 := hs_get_w
  have f7 := hs_set_w
  have f8 := hs_del_w
  repeat (any_goals (first | assumption | tb_rel))
  refine hs_bind_str fun v h' t' k => ?_
  repeat (any_goals (first | assumption | tb_rel))
  exact hq v h' t' k
theorem hs_call_str {R : Result → Shared → Prop} (hq : ∀ b h' t', (∀ b o, h.get? b = some o → h'.get? b = some o) → R (.ok (.ret (.ref b))) ⟨h', g, d, t', os⟩) :
    codeAny (model prog w) A (.call (.builtin "object.__getattribute__") ⟨[.str x u, .str "__getitem__" tk], []⟩) R ⟨h, g, d, t, os⟩ :=
  codeAny_call_builtin F.slot_str_getattribute.plain F.entry_object_getattribute (F.slot_str_getattribute.check _ _ _ _ _ _ _ _ (show (⟨h, g, d, t, os⟩ : Shared).TypeIs (.str x u) "str" from rfl) (F.args_object_getattribute_2 _ _) (hs_entry_str fun v h' t' k => hq v h' t' k))
theorem hs_str {Q : Value → Shared → Prop} (hq : ∀ h' t', (∀ b o, h.get? b = some o → h'.get? b = some o) → Q (.bool true) ⟨h', g, d, t', os⟩) :
    wpAny (model prog w) A (call (.builtin "hasattr") [.str x u, .str "__getitem__" tk]) Q E ⟨h, g, d, t, os⟩ := by
  refine call_function_entry hs_kind hs_plain hs_entry (hs_args _ _) ?_
  have hT : (⟨h, g, d, t, os⟩ : Shared).TypeIs (.str x u) "str" := rfl
  have f4 := hs_lk_str
  have f5 := F.slot_str_getattribute.lookup
  have f6 : (withoutEnding? "str.__getitem__" "#data").isSome = false := by decide +kernel
  have f3 := F.slot_str_getattribute.bind (.str x u)
  unfold Builtin.«hasattr»
  repeat (any_goals (first | assumption | tb_rel))
  refine hs_call_str fun b h' t' k => ?_
  repeat (any_goals (first | assumption | tb_rel))
  exact ⟨_, rfl, hq h' t' k⟩
end

section
variable {prog : Program} {w : World} {A : Around} {E : Value → Shared → Prop} {h : Heap} {g : Array GenState} {d : Drawn} {t : Nat} {os : OsState} {a : Addr} {vs : Array Value} {n : Nat} {sl : Array (Option Value)} {tk : Tok}
theorem hs_bind_list {R : Result → Shared → Prop} (hx : h.get? a = some ⟨.type "list", none, .seq vs n, sl⟩) (hq : ∀ b h' t', (∀ b o, h.get? b = some o → h'.get? b = some o) → R (.ok (.ret (.ref b))) ⟨h', g, d, t', os⟩) :
    codeAny (model prog w) A (.call (.builtin "method_descriptor.__get__") ⟨[.builtin "list.__getitem__", .ref a, .type "list"], []⟩) R ⟨h, g, d, t, os⟩ := by
  have hT : (⟨h, g, d, t, os⟩ : Shared).TypeIs (.ref a) "list" := ⟨_, hx, rfl⟩
  have hT5 : (⟨h, g, d, t, os⟩ : Shared).TypeIs (.builtin "list.__getitem__") "method_descriptor" := hs_t_list
  have f8 := hs_sub_list
  refine codeAny_call_builtin hs_slot_m.plain hs_entry_m (hs_slot_m.check _ _ _ _ _ _ _ _ hT5 (hs_args_m _ _ _) ?_)
  repeat (any_goals (first | assumption | tb_rel))
  exact hq _ _ _ fun _ _ e => Heap.get?_push_of_some _ e
theorem hs_entry_list {Q : Fin → Shared → Prop} (hx : h.get? a = some ⟨.type "list", none, .seq vs n, sl⟩) (hq : ∀ b h' t', (∀ b o, h.get? b = some o → h'.get? b = some o) → Q (.done (.ret (.ref b))) ⟨h', g, d, t', os⟩) :
    wpAny (model prog w) A (Builtin.«object.__getattribute__» ⟨[.ref a, .str "__getitem__" tk], []⟩) Q E ⟨h, g, d, t, os⟩ := by
  have hT : (⟨h, g, d, t, os⟩ : Shared).TypeIs (.ref a) "list" := ⟨_, hx, rfl⟩
  have f4 := hs_lk_list
  have f5 := hs_t_list
  have f6 := hs_get_m
  have f7 := hs_set_m
  have f8 := hs_del_m
  repeat (any_goals (first | assumption | tb_rel))
  refine hs_bind_list hx fun v h' t' k => ?_
  repeat (any_goals (first | assumption | tb_rel))
  exact hq v h' t' k
theorem hs_call_list {R : Result → Shared → Prop} (hx : h.get? a = some ⟨.type "list", none, .seq vs n, sl⟩) (hq : ∀ b h' t', (∀ b o, h.get? b = some o → h'.get? b = some o) → R (.ok (.ret (.ref b))) ⟨h', g, d, t', os⟩) :
    codeAny (model prog w) A (.call (.builtin "list.__getattribute__") ⟨[.ref a, .str "__getitem__" tk], []⟩) R ⟨h, g, d, t, os⟩ :=
  codeAny_call_builtin F.slot_list_getattribute.plain F.entry_list_ga (F.slot_list_getattribute.check _ _ _ _ _ _ _ _ (show (⟨h, g, d, t, os⟩ : Shared).TypeIs (.ref a) "list" from ⟨_, hx, rfl⟩) (F.args_list_getattribute_2 _ _) (hs_entry_list hx fun v h' t' k => hq v h' t' k))
theorem hs_list {Q : Value → Shared → Prop} (hx : h.get? a = some ⟨.type "list", none, .seq vs n, sl⟩) (hq : ∀ h' t', (∀ b o, h.get? b = some o → h'.get? b = some o) → Q (.bool true) ⟨h', g, d, t', os⟩) :
    wpAny (model prog w) A (call (.builtin "hasattr") [.ref a, .str "__getitem__" tk]) Q E ⟨h, g, d, t, os⟩ := by
  refine call_function_entry hs_kind hs_plain hs_entry (hs_args _ _) ?_
  have hT : (⟨h, g, d, t, os⟩ : Shared).TypeIs (.ref a) "list" := ⟨_, hx, rfl⟩
  have f4 := hs_lk_list
  have f2 := F.slot_list_getattribute.lookup
  have f3 := F.slot_list_getattribute.bind (.ref a)
  have f6 : (withoutEnding? "list.__getitem__" "#data").isSome = false := by decide +kernel
  have f7 : isSubtype (.type "list") (.type "module") = pure false := by rw [isSubtype_type]; kernel_rfl
  unfold Builtin.«hasattr»
  repeat (any_goals (first | assumption | with_reducible apply class_attr_list hx rfl | tb_rel))
  refine hs_call_list hx fun b h' t' k => ?_
  repeat (any_goals (first | assumption | tb_rel))
  exact ⟨_, rfl, hq h' t' k⟩
end

theorem fn_hasS {w : World} {k : Nat} {x : Str} : Fn w k (.builtin "hasattr") [.str x, .str (Str.ofString "__getitem__")] (.bool true) where
  keep := keep_builtin
  run := by
    intro A s P vs rm wd tb r Q E q
    obtain ⟨v, u, rfl, r1, r2⟩ := r.two_inv
    obtain ⟨t, rfl⟩ := r1.str_inv
    obtain ⟨t2, rfl⟩ := r2.str_inv
    obtain ⟨h, g, d, tk, os⟩ := s
    exact hs_str fun h' t' k => q _ h' t' k (.bool true)
theorem fn_hasL {w : World} {k : Nat} {ds : List PyData} : Fn w k (.builtin "hasattr") [.list ds, .str (Str.ofString "__getitem__")] (.bool true) where
  keep := keep_builtin
  run := by
    intro A s P vs rm wd tb r Q E q
    obtain ⟨v, u, rfl, r1, r2⟩ := r.two_inv
    obtain ⟨a, xs, rfl, hl, _, _⟩ := r1.list_inv
    obtain ⟨t2, rfl⟩ := r2.str_inv
    obtain ⟨h, g, d, tk, os⟩ := s
    obtain ⟨⟨cls, dd, data, sl⟩, n, ho, hc, hdd, hd⟩ := hl
    simp only at hc hdd hd
    subst hc hdd hd
    exact hs_list ho fun h' t' k => q _ h' t' k (.bool true)
end PartHs
section PartL10
inductive Has (x : Str) (sl : Sl) : List (Str × Sl) → Prop
  | head {r} : Has x sl ((x, sl) :: r)
  | tail {p r} : Has x sl r → Has x sl (p :: r)
theorem Has.mem {x : Str} {sl : Sl} {ρ : List (Str × Sl)} (h : Has x sl ρ) : (x, sl) ∈ ρ := by
  induction h with
  | head => exact .head _
  | tail _ ih => exact .tail _ ih
def flOf : PyData → Fl
  | .list _ => .cl
  | .tuple _ => .cl
  | .dict _ => .cl
  | _ => .fr

theorem SetIn.vv {x : Str} {sl : Sl} {d : PyData} {r : List (Str × Sl)} : SetIn x sl ((x, .val d) :: r) ((x, sl) :: r) := .head fun _ h => nomatch h
theorem SetIn.vo {x : Str} {sl : Sl} {d : List PyData} {r : List (Str × Sl)} : SetIn x sl ((x, .own d) :: r) ((x, sl) :: r) := .head fun _ h => nomatch h
theorem SetIn.vf {x : Str} {sl : Sl} {r : List (Str × Sl)} : SetIn x sl ((x, .free) :: r) ((x, sl) :: r) := .head fun _ h => nomatch h

theorem lit_empty : Str.ofString "" = S [] := by decide +kernel
theorem lit_dot : Str.ofString "." = S [46] := by decide +kernel
theorem lit_dots : Str.ofString ".." = S [46, 46] := by decide +kernel
theorem lit_lpar : Str.ofString "(" = S [40] := by decide +kernel
theorem lit_rpar : Str.ofString ")" = S [41] := by decide +kernel
theorem lit_gg : Str.ofString ">>" = S [62, 62] := by decide +kernel
theorem lit_ss : Str.ofString "//" = S [47, 47] := by decide +kernel
theorem lit_n : Str.ofString "\n" = S [10] := by decide +kernel
theorem lit_r : Str.ofString "\r" = S [13] := by decide +kernel
theorem lit_rn : Str.ofString "\r\n" = S [13, 10] := by decide +kernel

section
variable {w : World} {k : Nat} {ρ ρ' : List (Str × Sl)} {e l r t x y : Expr} {es : List Expr} {d d1 d2 : PyData} {ds ds' : List PyData} {f g f1 f2 : Fl} {P : Out → Prop} {st : Stmt} {rest : List Stmt} {v : Str} {p pos : Pos} {i j : Int} {a b : List Nat} {c : Nat}

theorem T.nI (h : Has v (.val (.int i)) ρ) : Ev w k ρ (.Name v p) (.int i) .fr := Ev.nameA h.mem rfl
theorem T.nB {q : Bool} (h : Has v (.val (.bool q)) ρ) : Ev w k ρ (.Name v p) (.bool q) .fr := Ev.nameA h.mem rfl
theorem T.nS {z : Str} (h : Has v (.val (.str z)) ρ) : Ev w k ρ (.Name v p) (.str z) .fr := Ev.nameA h.mem rfl
theorem T.nL (h : Has v (.val (.list ds)) ρ) : Ev w k ρ (.Name v p) (.list ds) .cl := Ev.name h.mem
theorem T.own (h : Has v (.own ds) ρ) : Ev w k ρ (.Name v p) (.list ds) .an := Ev.nameO h.mem
theorem T.mine (h : Has v (.own ds) ρ) (ha : ds.all atom = true) : Ev w k ρ (.Name v p) (.list ds) .mi := Ev.nameM h.mem ha
theorem T.lit {z : Str} {n : Nat} (h : z = S a) : Ev w k ρ (.Constant (.str z) n pos) (.str (S a)) .fr := h ▸ Ev.str
theorem T.bin {op : Operator} (h1 : Ev w k ρ l d1 f1) (h2 : Ev w k ρ r d2 f2) (o : Op2 w k (binaryOp op) d1 d2 d) : Ev w k ρ (.BinOp l op r pos) d .fr := Ev.bin h1 h2 o
theorem T.cmp {op : CmpOp} {q : Bool} (h1 : Ev w k ρ l d1 f1) (h2 : Ev w k ρ r d2 f2) (o : Op2 w k (compareOp op) d1 d2 (.bool q)) (hm : behindInMarks op r = false := by with_unfolding_all rfl) : Ev w k ρ (.Compare l [op] [r] pos) (.bool q) .fr := Ev.cmp h1 h2 o hm
theorem T.tcmp {op : CmpOp} {q : Bool} (h1 : Ev w k ρ l d1 f1) (h2 : Ev w k ρ r d2 f2) (o : Op2 w k (compareOp op) d1 d2 (.bool q)) (hm : behindInMarks op r = false := by with_unfolding_all rfl) : Tr w k ρ (.Compare l [op] [r] pos) q := Tr.cmp h1 h2 o hm
theorem T.tname {q : Bool} (h : Has v (.val (.bool q)) ρ) : Tr w k ρ (.Name v p) q := Tr.plain (T.nB h) fun _ _ => rfl
theorem T.ifI {q : Bool} (ht : Tr w k ρ t q) (h1 : Ev w k ρ x (.int i) f1) (h2 : Ev w k ρ y (.int j) f2) : Ev w k ρ (.IfExp t x y pos) (.int (bif q then i else j)) .fr := Ev.ofAtom rfl (Ev.ifExp ht h1 h2)
theorem T.ifS {q : Bool} (ht : Tr w k ρ t q) (h1 : Ev w k ρ x (.str (S a)) f1) (h2 : Ev w k ρ y (.str (S b)) f2) : Ev w k ρ (.IfExp t x y pos) (.str (S (bif q then a else b))) .fr := by
  have := Ev.ofAtom rfl (Ev.ifExp (pos := pos) ht h1 h2)
  cases q <;> exact this
theorem T.if (ht : Tr w k ρ t q) (h1 : Ev w k ρ x d1 f1) (h2 : Ev w k ρ y d2 f2) : Ev w k ρ (.IfExp t x y pos) (sel q d1 d2) .an := Ev.ifExp ht h1 h2

theorem T.assign (h : Ev w k ρ e d .fr) (hs : SetIn v (.val d) ρ ρ') (hp : P (.nx ρ')) (hsw : ∀ env, swapsWith e (some (.Name v p)) pos.line env = pure false) : Ex1 w k ρ (.Assign [.Name v p] e pos) P := Ex1.assign h.toCl hs hp hsw
theorem T.ret (h : Ev w k ρ e d .fr) (hp : P (.rt d)) : Ex1 w k ρ (.Return (some e) pos) P := Ex1.ret h.toMi hp
theorem o_addS (h : a.length + b.length ≤ 16777216) : Op2 w k (binaryOp .Add) (.str (S a)) (.str (S b)) (.str (S (a ++ b))) := by
  rw [← S_app]; exact op_addS (by rw [S_len, S_len]; exact h)
theorem o_mulS (h2 : -2 ^ 63 ≤ i) (h3 : i ≤ 1048576) : Op2 w k (binaryOp .Mult) (.str (S [c])) (.int i) (.str (S (List.replicate i.toNat c))) := by
  have e : S (List.replicate i.toNat c) = Txt.mul (S [c]) i := by
    have := mul_one_list c i
    show S _ = Txt.mul ⟨#[c]⟩ i
    unfold S
    rw [← this]
  rw [e]
  exact op_mulS (by simp [S_len]) h2 h3
theorem o_eqS : Op2 w k (compareOp .Eq) (.str (S a)) (.str (S b)) (.bool (a == b)) := by rw [← S_inj]; exact op_eqS
theorem o_neS : Op2 w k (compareOp .NotEq) (.str (S a)) (.str (S b)) (.bool (a != b)) := by rw [← S_ne]; exact op_neS
end
theorem len_cond {q : Bool} {a b : List Nat} : (bif q then a else b).length = if q = true then a.length else b.length := by cases q <;> rfl
end PartL10
section PartL11
section
variable {w : World} {k : Nat} {ρ ρ' : List (Str × Sl)} {e l r t x y : Expr} {es : List Expr} {d d1 d2 : PyData} {ds ds' : List PyData} {f g f1 f2 : Fl} {P : Out → Prop} {st : Stmt} {rest : List Stmt} {v : Str} {p pos : Pos} {i j : Int} {a b : List Nat} {c : Nat}

theorem T.gint {tok : Tok} (h : Has v (.glob (.int i tok)) ρ) : Ev w k ρ (.Name v p) (.int i) .fr := by
  intro A c env s rm es tb
  exact Ys.of tb fun Q E q => name_of (es.vars _ _ h.mem) (q _ s.heap s.toks Ext.rfl (.int i tok)) (es.dbg h.mem)
theorem T.gstr {z : Str} {tok : Tok} (h : Has v (.glob (.str z tok)) ρ) : Ev w k ρ (.Name v p) (.str z) .fr := by
  intro A c env s rm es tb
  exact Ys.of tb fun Q E q => name_of (es.vars _ _ h.mem) (q _ s.heap s.toks Ext.rfl (.str z tok)) (es.dbg h.mem)
theorem T.nG {g : Bool} (h : Has v (.val (gI g i)) ρ) : Ev w k ρ (.Name v p) (.int i) .fr := Ev.plain (Ev.nameA (d := gI g i) h.mem rfl)
theorem T.nGG {g : Bool} (h : Has v (.val (gI g i)) ρ) : Ev w k ρ (.Name v p) (gI g i) .fr := Ev.nameA h.mem rfl
theorem T.neg (h : Ev w k ρ x (.int i) f) : Ev w k ρ (.UnaryOp .USub x pos) (.int (-i)) .fr := Ev.un h op_neg

theorem Tr.and_nil {pos : Pos} : Tr w k ρ (.BoolOp .And [] pos) true := by
  intro A c env s rm es tb Q E q
  exact isTrue_and_nil (q s.heap s.toks Ext.rfl tb)
theorem Tr.and {x : Expr} {rest : List Expr} {pos : Pos} {b1 b2 : Bool} (h1 : Tr w k ρ x b1) (h2 : b1 = true → Tr w k ρ (.BoolOp .And rest pos) b2) : Tr w k ρ (.BoolOp .And (x :: rest) pos) (b1 && b2) := by
  intro A c env s rm es tb Q E q
  refine isTrue_and (h1 rm es tb fun h' tk e1 t1 => ?_)
  cases b1 with
  | false => exact q h' tk e1 t1
  | true => exact h2 rfl (s := { s with heap := h', toks := tk }) rm (es.keeps e1) t1 fun h'' tk' e2 t2 => q h'' tk' (e1.trans e2) t2
theorem Tr.not {b : Bool} (h : Tr w k ρ x b) : Tr w k ρ (.UnaryOp .Not x pos) (!b) := by
  intro A c env s rm es tb Q E q
  exact isTrue_not (h rm es tb fun h' tk e1 t1 => q h' tk e1 t1)
theorem Tr.and2 {b1 b2 : Bool} (h1 : Tr w k ρ x b1) (h2 : Tr w k ρ y b2) : Tr w k ρ (.BoolOp .And [x, y] pos) (b1 && b2) := by
  have := Tr.and (pos := pos) h1 fun _ => Tr.and (pos := pos) h2 fun _ => Tr.and_nil (pos := pos)
  simpa using this
theorem Tr.or2 {b1 b2 : Bool} (h1 : Tr w k ρ x b1) (h2 : Tr w k ρ y b2) : Tr w k ρ (.BoolOp .Or [x, y] pos) (b1 || b2) := by
  have := Tr.or (pos := pos) h1 (Tr.or (pos := pos) h2 (Tr.or_nil (pos := pos)))
  simpa using this
theorem Tr.or3 {z : Expr} {b1 b2 b3 : Bool} (h1 : Tr w k ρ x b1) (h2 : Tr w k ρ y b2) (h3 : Tr w k ρ z b3) : Tr w k ρ (.BoolOp .Or [x, y, z] pos) (b1 || (b2 || b3)) := by
  have := Tr.or (pos := pos) h1 (Tr.or (pos := pos) h2 (Tr.or (pos := pos) h3 (Tr.or_nil (pos := pos))))
  simpa using this

theorem T.arg {f : Fl} (h1 : Ev w k ρ e d f) (h2 : EvL w k ρ es ds .an) (he : ∀ env, starEach (e :: es) env = (false, eval e env) :: starEach es env) : EvL w k ρ (e :: es) (d :: ds) .an := EvL.cons h1.toAn h2 he
theorem T.argF (h1 : Ev w k ρ e d .fr) (h2 : EvL w k ρ es ds .fr) (he : ∀ env, starEach (e :: es) env = (false, eval e env) :: starEach es env) : EvL w k ρ (e :: es) (d :: ds) .fr := EvL.cons h1 h2 he
theorem T.call {x : Str} {p pos : Pos} {cv : Value} (hm : Has x (.glob cv) ρ) (ha : EvL w k ρ (e :: es) ds .an) (hf : Fn w k cv ds d)
    (he : ∀ env, starEach (e :: es) env = (false, eval e env) :: starEach es env) (hp : ∀ env, (backTo pos (starEach es env)).any (·.1) = false) :
    Ev w k ρ (.Call (.Name x p) (e :: es) [] pos) d .fr := Ev.call hm.mem ha hf he hp

/-- 'is' on ints of two grades -/
theorem op_isG (hs : smallInt i = true) : Op2 w k (compareOp .Is) (gI true i) (gI false j) (.bool (i == j)) := by
  intro A s P1 P2 v1 v2 rm wd r1 r2 Q E q
  obtain ⟨t, rfl, ht⟩ := r1.gint_inv
  obtain ⟨u, rfl, hu⟩ := r2.gint_inv
  simp only [Gr, cond_true, cond_false] at ht hu
  have h0 : (t == 0 || u == 0) = false := by
    rw [Bool.or_eq_false_iff, beq_eq_false_iff_ne, beq_eq_false_iff_ne]
    constructor
    · exact Nat.pos_iff_ne_zero.mp ht.1
    · exact Nat.pos_iff_ne_zero.mp (Nat.lt_of_lt_of_le (by decide) hu)
  have h1 : (t == u) = false := by
    rw [beq_eq_false_iff_ne]; intro e; subst e; exact absurd ht.2 (Nat.not_lt.mpr hu)
  have e : compareOp .Is (.int i t) (.int j u) = (do return .bool (← isSame (.int i t) (.int j u))) := rfl
  rw [e]
  refine wpAny_bind ?_
  show wpAny _ _ (if i == j && smallInt i then isSame.cachedInt t u else isSame.created (i == j) t u) _ _ _
  refine wpAny_ite ?_
  split
  · rename_i h
    rw [Bool.and_eq_true] at h
    unfold isSame.cachedInt
    rw [h0]
    have hh : Q (.bool (i == j)) s := q _ s.heap s.toks Ext.rfl (.bool _)
    rw [h.1] at hh
    exact wpAny_bind (wpAny_rule (wpAny_pure (wpAny_pure hh)))
  · rename_i h
    have hij : (i == j) = false := by
      rw [hs, Bool.and_true] at h
      exact Bool.eq_false_iff.mpr h
    unfold isSame.created
    rw [h0, h1, hij]
    have hh : Q (.bool (i == j)) s := q _ s.heap s.toks Ext.rfl (.bool _)
    rw [hij] at hh
    exact wpAny_pure (wpAny_pure hh)
theorem op_isntI {q1 q2 : Bool} : Op2 w k (compareOp .IsNot) (.bool q1) (.bool q2) (.bool (q1 != q2)) := op_isntB
end
end PartL11
section PartL12a
section
variable {w : World} {k k' : Nat} {ρ ρ' : List (Str × Sl)} {e l r t x y : Expr} {es : List Expr} {d d1 d2 : PyData} {ds ds' : List PyData} {f g f1 f2 : Fl} {P : Out → Prop} {v : Str} {p pos : Pos} {i j : Int}
theorem Fn.up {cv : Value} (h : Fn w k cv ds d) (hk : k ≤ k') : Fn w k' cv ds d := ⟨h.keep, fun rm => h.run (rm.le hk)⟩
theorem T.nLI {ns : List Int} (h : Has v (.val (.list (ns.map .int))) ρ) : Ev w k ρ (.Name v p) (.list (ns.map .int)) .cl := T.nL h
theorem all_ints (ns : List Int) : (ns.map PyData.int).all atom = true := by simp [atom]
theorem T.oLI {ns : List Int} (h : Has v (.own (ns.map .int)) ρ) : Ev w k ρ (.Name v p) (.list (ns.map .int)) .mi := Ev.nameM h.mem (all_ints ns)
theorem T.itemI {ns : List Int} (hv : Ev w k ρ x (.list (ns.map .int)) f) (hi : Ev w k ρ y (.int i) g) (h0 : 0 ≤ i) (hn : i < ns.length) (hz : ns.length ≤ 16777216) (hs : ∀ o i, subscripted y false o i = operate [o, i] (getItem o i)) :
    Ev w k ρ (.Subscript x y pos) (.int (ns.getD i.toNat 0)) .fr := by
  refine Ev.itemA hv hi h0 (by omega) ?_ rfl hs
  have : i.toNat < ns.length := by omega
  rw [List.getElem?_map, List.getD_eq_getElem?_getD, List.getElem?_eq_getElem this]; rfl
end
end PartL12a
section PartL13
section
variable {w : World} {k k' : Nat} {ρ ρ' : List (Str × Sl)} {e l r t x y : Expr} {es : List Expr} {d d0 d1 d2 : PyData} {ds ds' : List PyData} {f g f1 f2 : Fl} {P : Out → Prop} {v : Str} {p pos : Pos} {i j : Int}
theorem T.aug {op : Operator} (hm : Has v (.val d0) ρ) (h : Ev w k ρ e d1 f1) (o : Op2 w k (inplaceOp op) d0 d1 d) (hs : SetIn v (.val d) ρ ρ') (hp : P (.nx ρ')) : Ex1 w k ρ (.AugAssign (.Name v p) op e pos) P := Ex1.aug hm.mem h o hs hp
theorem T.appI {ns : List Int} {p1 apos cpos : Pos} (hm : Has v (.own (ns.map .int)) ρ) (h : Ev w k ρ e (.int i) f) (hz : ns.length ≤ 16777216) (hs : SetIn v (.own ((ns ++ [i]).map .int)) ρ ρ') (hp : P (.nx ρ'))
    (hline : (apos.endLine == cpos.line) = true) (he : ∀ env, starEach [e] env = [(false, eval e env)]) : Ex1 w k ρ (.Expr (.Call (.Attribute (.Name v p1) "append" apos) [e] [] cpos) pos) P :=
  Ex1.append hm.mem (Ev.ofAtom rfl h).toCl (by simpa using hz) (by rw [List.map_append] at hs; exact hs) hp hline he
theorem T.setI {ns : List Int} {p1 spos : Pos} {idx : Expr} {n : Int} (hm : Has v (.own (ns.map .int)) ρ) (h : Ev w k ρ e (.int i) f) (hi : Ev w k ρ idx (.int n) f1) (h0 : 0 ≤ n) (hn : n < ns.length) (hz : ns.length ≤ 16777216)
    (hs : SetIn v (.own ((ns.set n.toNat i).map .int)) ρ ρ') (hp : P (.nx ρ')) (hsw : ∀ env, swapsWith e (some (.Subscript (.Name v p1) idx spos)) pos.line env = pure false) :
    Ex1 w k ρ (.Assign [.Subscript (.Name v p1) idx spos] e pos) P :=
  Ex1.setItem hm.mem (Ev.ofAtom rfl h).toCl hi h0 (by simpa using hn) (by simpa using hz) (by rw [List.map_set] at hs; exact hs) hp hsw
theorem T.augI {ns : List Int} {p1 spos : Pos} {op : Operator} {idx : Expr} {n i2 : Int} (hm : Has v (.own (ns.map .int)) ρ) (hi : Ev w k ρ idx (.int n) f1) (h0 : 0 ≤ n) (hn : n < ns.length) (hz : ns.length ≤ 16777216)
    (h : Ev w k ρ e d1 f2) (o : Op2 w k (inplaceOp op) (.int (ns.getD n.toNat 0)) d1 (.int i2)) (hs : SetIn v (.own ((ns.set n.toNat i2).map .int)) ρ ρ') (hp : P (.nx ρ'))
    (ha : ∀ ov iv new, augStore idx ov iv new = (do holding [new, ov, iv] (PySem.setItem ov iv new); release [new, ov, iv] []; pure .next)) :
    Ex1 w k ρ (.AugAssign (.Subscript (.Name v p1) idx spos) op e pos) P := by
  refine Ex1.augItem hm.mem hi h0 (by simpa using hn) (by simpa using hz) (d0 := .int (ns.getD n.toNat 0)) ?_ h o (by rw [List.map_set] at hs; exact hs) hp ha
  have : n.toNat < ns.length := by omega
  rw [List.getElem?_map, List.getD_eq_getElem?_getD, List.getElem?_eq_getElem this]; rfl
theorem T.tr {q q' : Bool} (h : Tr w k ρ t q) (e : q = q') : Tr w k ρ t q' := e ▸ h
theorem T.ev {d' : PyData} (h : Ev w k ρ e d f) (e' : d = d') : Ev w k ρ e d' f := e' ▸ h
theorem T.retM (h : Ev w k ρ e d .mi) (hp : P (.rt d)) : Ex1 w k ρ (.Return (some e) pos) P := Ex1.ret h hp
theorem RdL.ints {h : Heap} {Pa : Addr → Prop} : ∀ {vs : List Value} {ns : List Int}, RdL h Pa vs (ns.map .int) → IntsAre vs ns
  | [], [], _ => .nil
  | [], _ :: _, r => by cases r
  | _ :: _, [], r => by cases r
  | v :: vs, n :: ns, r => by
    obtain ⟨u, us, e, a, b⟩ := r.cons_inv
    cases e
    obtain ⟨t, rfl⟩ := a.int_inv
    exact .cons n t (RdL.ints b)
theorem op_inL {ns : List Int} : Op2 w k (compareOp .In) (.int i) (.list (ns.map .int)) (.bool (ns.any (· == i))) := by
  intro A s P1 P2 v1 v2 rm wd r1 r2 Q E q
  obtain ⟨t, rfl⟩ := r1.int_inv
  obtain ⟨a, vs, rfl, hl, ra, _⟩ := r2.list_inv
  exact in_list_ints (vs := vs.toList) hl.isList ra.ints (q _ s.heap s.toks Ext.rfl (.bool _))
theorem op_notInL {ns : List Int} : Op2 w k (compareOp .NotIn) (.int i) (.list (ns.map .int)) (.bool (!ns.any (· == i))) := by
  intro A s P1 P2 v1 v2 rm wd r1 r2 Q E q
  obtain ⟨t, rfl⟩ := r1.int_inv
  obtain ⟨a, vs, rfl, hl, ra, _⟩ := r2.list_inv
  exact notin_list_ints (vs := vs.toList) hl.isList ra.ints (q _ s.heap s.toks Ext.rfl (.bool _))
theorem Tr.notInTup {ns : List Int} {tk : Nat} {tpos pos : Pos} (h : Ev w k ρ x (.int i) f) (ha : EvL w k ρ es (ns.map .int) .an) (hz : ns.length ≤ 16777216) : Tr w k ρ (.Compare x [.NotIn] [.Tuple es tk tpos] pos) (!ns.any (· == i)) := by
  intro A c env s rm es' tb Q E q
  refine wpAny_isTrue_Compare1 (h rm es' tb fun v1 h' tk e1 b1 r1 => ?_) rfl
  refine Tuple_ (ha (s := { s with heap := h', toks := tk }) rm (es'.keeps e1) b1 fun vs h'' tk' e2 b2 r2 => ?_)
  refine wpAny_newTuple ?_ (by rw [sizeLine_eq, r2.length, List.length_map]; exact hz)
  obtain ⟨t, rfl⟩ := r1.int_inv
  refine notin_tuple_ints (items := vs.toArray) ⟨_, Heap.get?_push_size _ rfl, rfl, 0, rfl⟩ (by simpa using r2.ints) ?_
  exact wpAny_truthy_bool (q _ _ ((e1.trans e2).trans ext_push) b2)
end
end PartL13
section PartL16a
section
variable {w : World} {k : Nat} {ρ : List (Str × Sl)} {e : Expr} {f : Fl}
theorem T.test {q : Bool} (h : Ev w k ρ e (.bool q) f) (he : ∀ env whole, isTrue e env whole = (do let v ← whole; standAt e.pos; holding [v] (truthy v))) : Tr w k ρ e q := Tr.plain h he
theorem o_addLI {ns ms : List Int} (h : ns.length + ms.length ≤ 16777216) : Op2 w k (binaryOp .Add) (.list (ns.map .int)) (.list (ms.map .int)) (.list ((ns ++ ms).map .int)) := by
  rw [List.map_append]; exact op_addL (by simpa using h) (all_ints ns) (all_ints ms)
end
end PartL16a
section PartL17
section
variable {w : World} {k : Nat} {ρ : List (Str × Sl)} {e t x y : Expr} {es : List Expr} {f f1 f2 : Fl} {i : Int} {p pos : Pos} {a b : List Int}
theorem op_mulL (hlo : 0 ≤ i) (hhi : a.length * i.toNat ≤ 256) (hi : i ≤ 1000000) : Op2 w k (binaryOp .Mult) (.list (a.map .int)) (.int i) (.list (((List.replicate i.toNat a).flatten).map .int)) := by
  intro A s P1 P2 v1 v2 rm wd r1 r2 Q E q
  obtain ⟨l, vs, rfl, hl, ra, _⟩ := r1.list_inv
  obtain ⟨u, rfl⟩ := r2.int_inv
  obtain ⟨⟨cls, d, data, sl⟩, k, ho, hcl, hdn, hd⟩ := id hl
  simp only at hcl hdn hd
  subst hcl hdn hd
  have hlen := ra.length
  rw [Array.length_toList, List.length_map] at hlen
  have hsz' : vs.size * i.toNat ≤ 256 := by rw [hlen]; exact hhi
  refine wpAny_binaryOp_repeat_ref (T := "list") (U := "int") (by decide) ⟨_, ho, rfl⟩ (fun s' => typeIs_int s' i u) noFill_list_mul F.fills_int_mul F.slot_int_rmul repeat_list F.slot_int_index.lookup
    (call_meets F.slot_int_rmul (typeIs_int s i u) F.entry_int_rmul (F.args_int_rmul_2 _ _) (lm_int_rmul_list_any i u l vs k none sl)
      ⟨ho, rfl, ⟨_, ho, rfl⟩, call_meets F.slot_list_mul ⟨_, ho, rfl⟩ F.entry_list_mul (F.args_list_mul_2 _ _)
        (lm_list_mul_any l vs k none sl i u (by simp [Builtin.List.listFitsIndex]; omega) (by omega) (by simp [Builtin.List.listTooLong, sizeLine]; omega))
        ⟨ho, ?_⟩⟩)
  obtain ⟨xs⟩ := vs
  rw [listMul_foldl_if]
  refine q _ _ s.toks ext_push (.list isList_push ?_ push_free)
  have rr : ∀ n : Nat, RdL s.heap P1 ((List.replicate n xs).flatten) (((List.replicate n a).flatten).map .int) := by
    intro n
    induction n with
    | zero => exact .nil
    | succ n ih =>
      rw [List.replicate_succ, List.replicate_succ, List.flatten_cons, List.flatten_cons, List.map_append]
      exact ra.append ih
  simpa using RdL.of_atoms_heap (all_ints _) (rr i.toNat)
theorem o_mulL1 {c : Int} (hlo : 0 ≤ i) (hhi : i ≤ 256) : Op2 w k (binaryOp .Mult) (.list ([c].map .int)) (.int i) (.list ((List.replicate i.toNat c).map .int)) := by
  have := op_mulL (w := w) (k := k) (a := [c]) (i := i) hlo (by simp; omega) (by omega)
  rwa [show (List.replicate i.toNat [c]).flatten = List.replicate i.toNat c by simp] at this
theorem T.lst1 (h : Ev w k ρ e (.int i) f) (he : ∀ env, starEach [e] env = (false, eval e env) :: starEach [] env) : Ev w k ρ (.List [e] pos) (.list ([i].map .int)) .fr :=
  Ev.listA (EvL.consAn h EvL.nil he) rfl (by simp)
theorem T.ifL {q : Bool} (ht : Tr w k ρ t q) (h1 : Ev w k ρ x (.list (a.map .int)) f1) (h2 : Ev w k ρ y (.list (b.map .int)) f2) : Ev w k ρ (.IfExp t x y pos) (.list ((bif q then a else b).map .int)) .an := by
  have := Ev.ifExp (pos := pos) ht h1 h2
  cases q <;> exact this
/-- which datum a choice has -/
inductive Sel (q : Bool) : PyData → PyData → PyData → Fl → Prop
  | i {i j : Int} : Sel q (.int i) (.int j) (.int (bif q then i else j)) .fr
  | s {a b : List Nat} : Sel q (.str (S a)) (.str (S b)) (.str (S (bif q then a else b))) .fr
  | l {a b : List Int} : Sel q (.list (a.map .int)) (.list (b.map .int)) (.list ((bif q then a else b).map .int)) .an
theorem T.ifG {q : Bool} {d1 d2 d : PyData} (ht : Tr w k ρ t q) (h1 : Ev w k ρ x d1 f1) (h2 : Ev w k ρ y d2 f2) (hs : Sel q d1 d2 d f) : Ev w k ρ (.IfExp t x y pos) d f := by
  cases hs with
  | i => exact T.ifI ht h1 h2
  | s => exact T.ifS ht h1 h2
  | l => exact T.ifL ht h1 h2
theorem len_condI {q : Bool} {a b : List Int} : (bif q then a else b).length = if q = true then a.length else b.length := by cases q <;> rfl
end
end PartL17
theorem len1 {P : List Value → Prop} (h : ∀ a, P [a]) : ∀ vs, vs.length = 1 → P vs
  | [a], _ => h a
theorem len2 {P : List Value → Prop} (h : ∀ a b, P [a, b]) : ∀ vs, vs.length = 2 → P vs
  | [a, b], _ => h a b
theorem len3 {P : List Value → Prop} (h : ∀ a b c, P [a, b, c]) : ∀ vs, vs.length = 3 → P vs
  | [a, b, c], _ => h a b c
theorem len4 {P : List Value → Prop} (h : ∀ a b c d, P [a, b, c, d]) : ∀ vs, vs.length = 4 → P vs
  | [a, b, c, d], _ => h a b c d
theorem len5 {P : List Value → Prop} (h : ∀ a b c d e, P [a, b, c, d, e]) : ∀ vs, vs.length = 5 → P vs
  | [a, b, c, d, e], _ => h a b c d e
theorem warm : MineHead.heapK = MineHead.heapK ∧ PySem.Challenge.rw_tl0009_01 = PySem.Challenge.rw_tl0009_01 := by
  k_fill
  exact ⟨rfl, rfl⟩
local macro_rules | `(tactic| tb_start) => `(tactic| first | assumption | omega | decide | (simp only [len_cond, len_condI, S_len, List.length_append, List.length_replicate, List.length_cons, List.length_nil]; (repeat' split) <;> omega))
local macro_rules | `(tactic| tb_rel) => `(tactic| first | with_reducible exact Has.head | (with_reducible apply Has.tail; tb_rel))
local macro_rules | `(tactic| ke_reads) => `(tactic| first | with_reducible exact SetIn.vv | with_reducible exact SetIn.vf | with_reducible exact SetIn.vo | (with_reducible apply SetIn.tail; ke_reads))
local macro_rules | `(tactic| ktr_unf) => `(tactic| first | with_reducible exact op_add | with_reducible exact op_sub | (with_reducible apply op_mul; tb_start) | (with_reducible apply op_mod; tb_start) | (with_reducible apply op_floordiv; tb_start; tb_start) | (with_reducible apply op_pow; tb_start; tb_start; tb_start) | with_reducible exact op_eqI | with_reducible exact op_neI | with_reducible exact op_ltI | (with_reducible apply o_addS; tb_start) | (with_reducible apply o_mulS; tb_start; tb_start) | with_reducible exact o_eqS | with_reducible exact o_neS | with_reducible exact op_isB | with_reducible exact op_isntB | with_reducible exact op_neg | with_reducible exact op_and | (with_reducible apply op_rshift; tb_start) | with_reducible exact op_iadd | (with_reducible apply op_imul; tb_start) | (with_reducible apply o_mulL1; tb_start; tb_start) | (with_reducible apply o_addLI; tb_start))
local macro_rules | `(tactic| one_item) => `(tactic| first | with_reducible exact EvL.nil | (with_reducible apply T.arg; ktr_rel; one_item; (intro _; with_unfolding_all rfl)))
local macro_rules | `(tactic| ktr_rel) => `(tactic| first
  | with_reducible exact Ev.int
  | with_reducible exact Ev.bool
  | (with_reducible apply T.nI; tb_rel)
  | (with_reducible apply T.nS; tb_rel)
  | (with_reducible apply T.nB; tb_rel)
  | (with_reducible apply T.gint; tb_rel)
  | (with_reducible apply T.gstr; tb_rel)
  | (with_reducible apply T.nG; tb_rel)
  | (with_reducible apply T.nLI; tb_rel)
  | (with_reducible apply T.oLI; tb_rel)
  | (with_reducible apply T.nL; tb_rel)
  | with_reducible exact T.lit lit_dot | with_reducible exact T.lit lit_lpar | with_reducible exact T.lit lit_rpar | with_reducible exact T.lit lit_gg | with_reducible exact T.lit lit_ss | with_reducible exact T.lit lit_empty | with_reducible exact T.lit lit_n | with_reducible exact T.lit lit_r | with_reducible exact T.lit lit_rn
  | (with_reducible apply T.neg; ktr_rel)
  | (with_reducible apply T.bin; ktr_rel; ktr_rel; ktr_unf)
  | (with_reducible apply T.cmp; ktr_rel; ktr_rel; ktr_unf; with_unfolding_all rfl)
  | (with_reducible apply T.call; tb_rel; one_item; w_means; (intro _; with_unfolding_all rfl); (intro _; with_unfolding_all rfl))
  | (with_reducible apply T.itemI; ktr_rel; ktr_rel; tb_start; tb_start; tb_start; (intro _ _; with_unfolding_all rfl))
  | (with_reducible apply T.lst1; ktr_rel; (intro _; with_unfolding_all rfl))
  | (with_reducible apply T.ifG; kst_p; ktr_rel; ktr_rel; first | exact Sel.i | exact Sel.s | exact Sel.l))
local macro_rules | `(tactic| kst_p) => `(tactic| first
  | (with_reducible apply T.tcmp; ktr_rel; ktr_rel; ktr_unf; with_unfolding_all rfl)
  | (with_reducible apply T.tname; tb_rel)
  | (with_reducible apply Tr.and2; kst_p; kst_p)
  | (with_reducible apply Tr.or2; kst_p; kst_p)
  | (with_reducible apply Tr.or3; kst_p; kst_p; kst_p)
  | (with_reducible apply Tr.not; kst_p))
section PartL12
theorem and_fn {w : World} {a b : Int} : Fn w 1 (.ref 38) [.int a, .int b] (.int (Builtin.bitAnd a b)) := by
  refine fn_def (ps := [Str.ofString "a", Str.ofString "b"]) (ls := []) (gs := []) (by k_is) (by k_is) (by k_is) ?_ (by decide) (by decide +kernel) (by decide +kernel) ?_ (by decide +kernel) (by decide +kernel) rfl ?_
  · exact fun s => len2 fun a b => BindsTo.of_eq rfl
  · intro g hg; cases hg
  · show Ex w 0 [(Str.ofString "a", .val (.int a)), (Str.ofString "b", .val (.int b))] _ _
    refine Ex.cons (T.ret (by ktr_rel) ?_)
    rfl
theorem fdiv_fn {w : World} {a b : Int} (h1 : 0 < b) (h2 : b < 1073741824) : Fn w 1 (.ref 45) [.int a, .int b] (.int (a / b)) := by
  refine fn_def (ps := [Str.ofString "a", Str.ofString "b"]) (ls := []) (gs := []) (by k_is) (by k_is) (by k_is) ?_ (by decide) (by decide +kernel) (by decide +kernel) ?_ (by decide +kernel) (by decide +kernel) rfl ?_
  · exact fun s => len2 fun a b => BindsTo.of_eq rfl
  · intro g hg; cases hg
  · show Ex w 0 [(Str.ofString "a", .val (.int a)), (Str.ofString "b", .val (.int b))] _ _
    refine Ex.cons (T.ret (by ktr_rel) ?_)
    rfl
theorem mul_fn {w : World} {a b : Int} (h1 : b.natAbs < 2 ^ 63) : Fn w 1 (.ref 52) [.int a, .int b] (.int (a * b)) := by
  refine fn_def (ps := [Str.ofString "a", Str.ofString "b"]) (ls := []) (gs := []) (by k_is) (by k_is) (by k_is) ?_ (by decide) (by decide +kernel) (by decide +kernel) ?_ (by decide +kernel) (by decide +kernel) rfl ?_
  · exact fun s => len2 fun a b => BindsTo.of_eq rfl
  · intro g hg; cases hg
  · show Ex w 0 [(Str.ofString "a", .val (.int a)), (Str.ofString "b", .val (.int b))] _ _
    refine Ex.cons (T.ret (by ktr_rel) ?_)
    rfl
theorem mulS_fn {w : World} {c : Nat} {b : Int} (h1 : 0 ≤ b) (h2 : b ≤ 1048576) : Fn w 1 (.ref 52) [.str (S [c]), .int b] (.str (S (List.replicate b.toNat c))) := by
  refine fn_def (ps := [Str.ofString "a", Str.ofString "b"]) (ls := []) (gs := []) (by k_is) (by k_is) (by k_is) ?_ (by decide) (by decide +kernel) (by decide +kernel) ?_ (by decide +kernel) (by decide +kernel) rfl ?_
  · exact fun s => len2 fun a b => BindsTo.of_eq rfl
  · intro g hg; cases hg
  · show Ex w 0 [(Str.ofString "a", .val (.str (S [c]))), (Str.ofString "b", .val (.int b))] _ _
    refine Ex.cons (T.ret (by ktr_rel) ?_)
    rfl
theorem rsh_fn {w : World} {a b : Int} (h1 : 0 ≤ b) : Fn w 1 (.ref 59) [.int a, .int b] (.int (a / 2 ^ b.toNat)) := by
  refine fn_def (ps := [Str.ofString "a", Str.ofString "b"]) (ls := []) (gs := []) (by k_is) (by k_is) (by k_is) ?_ (by decide) (by decide +kernel) (by decide +kernel) ?_ (by decide +kernel) (by decide +kernel) rfl ?_
  · exact fun s => len2 fun a b => BindsTo.of_eq rfl
  · intro g hg; cases hg
  · show Ex w 0 [(Str.ofString "a", .val (.int a)), (Str.ofString "b", .val (.int b))] _ _
    refine Ex.cons (T.ret (by ktr_rel) ?_)
    rfl
theorem iseof_fn {w : World} {a : Int} : Fn w 1 (.ref 100) [.int a] (.bool (a == 0)) := by
  refine fn_def (ps := [Str.ofString "x"]) (ls := []) (gs := [(Str.ofString "ENDMARKER", .int 0 406)]) (by k_is) (by k_is) (by k_is) ?_ (by decide) (by decide +kernel) (by decide +kernel) ?_ (by decide +kernel) (by decide +kernel) rfl ?_
  · exact fun s => len1 fun a => BindsTo.of_eq rfl
  · intro g hg
    rw [List.mem_singleton.mp hg]
    exact ⟨rfl, .inl (by k_is)⟩
  · show Ex w 0 [(Str.ofString "x", .val (.int a)), (Str.ofString "ENDMARKER", .glob (.int 0 406))] _ _
    refine Ex.cons (T.ret (by ktr_rel) ?_)
    rfl
end PartL12
section PartL14
/-- the counting -/
def cnt (j : Int) (l : List Int) : Int := (l.countP (· == j) : Nat)
theorem cnt_step {j n : Int} {l : List Int} {i : Nat} (h : l[i]? = some n) : cnt j (l.take (i + 1)) = cnt j (l.take i) + (bif n == j then 1 else 0) := by
  have : l.take (i + 1) = l.take i ++ [n] := by rw [List.take_add_one, h]; rfl
  unfold cnt
  rw [this, List.countP_append, List.countP_singleton]
  cases hb : n == j <;> simp

theorem count_fn {w : World} {j : Int} {ns : List Int} (hs : ∀ n ∈ ns, smallInt n = true) : Fn w 1 (.ref 73) [.list (ns.map (gI true)), gI false j] (.int (cnt j ns)) := by
  refine fn_def (ps := [Str.ofString "a", Str.ofString "b"]) (ls := [Str.ofString "count", Str.ofString "i"]) (gs := []) (by k_is) (by k_is) (by k_is) ?_ (by decide) (by decide +kernel) (by decide +kernel) ?_ (by decide +kernel) (by decide +kernel) rfl ?_
  · exact fun s => len2 fun a b => BindsTo.of_eq rfl
  · intro g hg; cases hg
  · show Ex w 0 [(Str.ofString "a", .val (.list (ns.map (gI true)))), (Str.ofString "b", .val (gI false j)), (Str.ofString "count", .free), (Str.ofString "i", .free)] _ _
    refine Ex.cons (T.assign (by ktr_rel) (by ke_reads) ?_ (fun _ => rfl))
    refine Ex.cons (Ex1.for (It.name (Has.mem (by tb_rel)) (by simp [atom]))
      (fun n ρ => ∃ sl, (∀ v, sl ≠ .glob v) ∧ ρ = [(Str.ofString "a", .val (.list (ns.map (gI true)))), (Str.ofString "b", .val (gI false j)), (Str.ofString "count", .val (.int (cnt j (ns.take n)))), (Str.ofString "i", sl)])
      ⟨.free, (fun _ h => nomatch h), rfl⟩ ?_ ?_ (fun _ _ => rfl))
    · rintro n ρi d ⟨sl, hsl, rfl⟩ hd
      rw [List.getElem?_map] at hd
      obtain ⟨m, hm, rfl⟩ := Option.map_eq_some_iff.mp hd
      have hsm := hs m (List.mem_of_getElem? hm)
      have hc := cnt_step (j := j) hm
      refine ⟨_, .tail (.tail (.tail (.head hsl))), ?_⟩
      refine Ex.cons (Ex1.ite (b := m == j || m == j) (Tr.or2 (T.tcmp (T.nGG (by tb_rel)) (T.nGG (by tb_rel)) (op_isG hsm) (by with_unfolding_all rfl)) (by kst_p)) (fun h => ?_) (fun h => ?_))
      · refine Ex.cons (T.aug (by tb_rel) (by ktr_rel) op_iadd (by ke_reads) ?_)
        refine Ex.nil (Ex.nil ⟨.val (gI true m), (fun _ h => nomatch h), ?_⟩)
        rw [hc, show (m == j) = true by simpa using h]; rfl
      · refine Ex.nil (Ex.nil ⟨.val (gI true m), (fun _ h => nomatch h), ?_⟩)
        rw [hc, show (m == j) = false by simpa using h]; simp
    · rintro ρ' ⟨sl, hsl, rfl⟩
      refine Ex.cons (T.ret (by ktr_rel) ?_)
      show PyData.int _ = _
      rw [List.length_map, List.take_length]

def cellsN (sc : List Int) : Nat → List Int
  | 0 => [0, 1, 1, 14]
  | i + 1 => (cellsN sc i).set (i % 4) ((cellsN sc i).getD (i % 4) 0 + sc.getD i 0 % 1000000)
theorem cellsN_len (sc : List Int) : ∀ i, (cellsN sc i).length = 4
  | 0 => rfl
  | i + 1 => by unfold cellsN; rw [List.length_set]; exact cellsN_len sc i

theorem cells_fn {w : World} {sc : List Int} (hz : sc.length ≤ 1000000) : Fn w 1 (.ref 107) [.list (sc.map .int)] (.list ((cellsN sc sc.length).map .int)) := by
  refine fn_def (ps := [Str.ofString "script"]) (ls := [Str.ofString "cells", Str.ofString "k"]) (gs := [(Str.ofString "range", .type "range"), (Str.ofString "len", .builtin "len")]) (by k_is) (by k_is) (by k_is) ?_ (by decide) (by decide +kernel) (by decide +kernel) ?_ (by decide +kernel) (by decide +kernel) rfl ?_
  · exact fun s => len1 fun a => BindsTo.of_eq rfl
  · intro g hg
    rcases List.mem_cons.mp hg with rfl | hg
    · exact ⟨rfl, .inr ⟨by k_is, by kernel_rfl, by decide⟩⟩
    · rw [List.mem_singleton.mp hg]
      exact ⟨rfl, .inr ⟨by k_is, by kernel_rfl, by decide⟩⟩
  · show Ex w 0 [(Str.ofString "script", .val (.list (sc.map .int))), (Str.ofString "cells", .free), (Str.ofString "k", .free), (Str.ofString "range", .glob (.type "range")), (Str.ofString "len", .glob (.builtin "len"))] _ _
    refine Ex.cons (Ex1.assignOwn (ds := ([0, 1, 1, 14] : List Int).map .int) (.cons Ev.int.toCl (.cons Ev.int.toCl (.cons Ev.int.toCl (.cons Ev.int.toCl .nil fun _ => rfl) fun _ => rfl) fun _ => rfl) fun _ => rfl) (by decide) (by ke_reads) ?_)
    refine Ex.cons (Ex1.for (It.range1 (n := sc.length) (Has.mem (by tb_rel)) (T.call (by tb_rel) (T.arg (T.nL (by tb_rel)) EvL.nil fun _ => rfl) (by have := fn_len (w := w) (k := 0) (ds := sc.map PyData.int) (by rw [List.length_map]; omega); rwa [List.length_map] at this) (fun _ => rfl) (fun _ => rfl)) (by omega) (fun _ => rfl))
      (fun n ρ => ∃ sl, (∀ v, sl ≠ .glob v) ∧ ρ = [(Str.ofString "script", .val (.list (sc.map .int))), (Str.ofString "cells", .own ((cellsN sc n).map .int)), (Str.ofString "k", sl), (Str.ofString "range", .glob (.type "range")), (Str.ofString "len", .glob (.builtin "len"))])
      ⟨.free, (fun _ h => nomatch h), rfl⟩ ?_ ?_ (fun _ _ => rfl))
    · rintro n ρi d ⟨sl, hsl, rfl⟩ hd
      obtain ⟨hn, rfl⟩ := upI_get hd
      have hl := cellsN_len sc n
      have hzz : sc.length ≤ 16777216 := by omega
      refine ⟨_, .tail (.tail (.head hsl)), ?_⟩
      refine Ex.cons (T.augI (n := (n : Int) % 4) (by tb_rel) (by ktr_rel) (by omega) (by rw [hl]; omega) (by rw [hl]; decide) (by ktr_rel) op_iadd (by ke_reads) ?_ (fun _ _ _ => rfl))
      refine Ex.nil ⟨.val (.int n), (fun _ h => nomatch h), ?_⟩
      show _ = [_, (Str.ofString "cells", Sl.own (((cellsN sc n).set (n % 4) _).map .int)), _, _, _]
      have e : ((n : Int) % 4).toNat = n % 4 := by omega
      rw [e, Int.toNat_natCast]
    · rintro ρ' ⟨sl, hsl, rfl⟩
      rw [upI_len]
      refine Ex.cons (T.retM (T.oLI (by tb_rel)) ?_)
      rfl
end PartL14
section PartL15
def bitOf (c s f wt : Int) (i : Nat) : Bool := c / 2 ^ i % 2 == 1 && decide (wt * f < 2 ^ s.toNat)
def wordN (c s f : Int) : Nat → List Int × Int
  | 0 => ([], 1)
  | i + 1 => ((wordN c s f i).1 ++ [bif bitOf c s f (wordN c s f i).2 i then 1 else 0], bif bitOf c s f (wordN c s f i).2 i then (wordN c s f i).2 * f else (wordN c s f i).2)
theorem wordN_len (c s f : Int) : ∀ i, (wordN c s f i).1.length = i
  | 0 => rfl
  | i + 1 => by unfold wordN; rw [List.length_append, wordN_len c s f i]; rfl
def wordF (c : Int) (s : Nat) (f : Int) : List Int :=
  bif (wordN c s f s).1.any (· == 1) then (wordN c s f s).1 else (wordN c s f s).1.set (s - 1) 1

theorem pow2_lt {i : Nat} (h : i ≤ 4) : 0 < (2 : Int) ^ i ∧ (2 : Int) ^ i < 1073741824 ∧ ((2 : Int) ^ i).natAbs < 2 ^ 63 := by
  match i, h with
  | 0, _ => decide
  | 1, _ => decide
  | 2, _ => decide
  | 3, _ => decide
  | 4, _ => decide

theorem word_fn {w : World} {c f : Int} {n : Nat} (h1 : 1 ≤ n) (h2 : n ≤ 4) (hf : f.natAbs < 2 ^ 63) : Fn w 1 (.ref 114) [.int c, .int n, .int f] (.list ((wordF c n f).map .int)) := by
  refine fn_def (ps := [Str.ofString "cell", Str.ofString "size", Str.ofString "factor"]) (ls := [Str.ofString "word", Str.ofString "weight", Str.ofString "place"]) (gs := [(Str.ofString "range", .type "range")]) (by k_is) (by k_is) (by k_is) ?_ (by decide) (by decide +kernel) (by decide +kernel) ?_ (by decide +kernel) (by decide +kernel) rfl ?_
  · exact fun s => len3 fun a b c => BindsTo.of_eq rfl
  · intro g hg
    rw [List.mem_singleton.mp hg]
    exact ⟨rfl, .inr ⟨by k_is, by kernel_rfl, by decide⟩⟩
  · show Ex w 0 [(Str.ofString "cell", .val (.int c)), (Str.ofString "size", .val (.int n)), (Str.ofString "factor", .val (.int f)), (Str.ofString "word", .free), (Str.ofString "weight", .free), (Str.ofString "place", .free), (Str.ofString "range", .glob (.type "range"))] _ _
    have hz0 : (0 : Int) ≤ (n : Int) := by omega
    refine Ex.cons (Ex1.assignOwn (ds := ([] : List Int).map .int) .nil (by decide) (by ke_reads) ?_)
    refine Ex.cons (T.assign (by ktr_rel) (by ke_reads) ?_ (fun _ => rfl))
    refine Ex.cons (Ex1.for (It.range1 (n := n) (Has.mem (by tb_rel)) (f := .fr) (by ktr_rel) (by omega) (fun _ => rfl))
      (fun i ρ => ∃ sl, (∀ v, sl ≠ .glob v) ∧ ρ = [(Str.ofString "cell", .val (.int c)), (Str.ofString "size", .val (.int n)), (Str.ofString "factor", .val (.int f)), (Str.ofString "word", .own ((wordN c n f i).1.map .int)), (Str.ofString "weight", .val (.int (wordN c n f i).2)), (Str.ofString "place", sl), (Str.ofString "range", .glob (.type "range"))])
      ⟨.free, (fun _ h => nomatch h), rfl⟩ ?_ ?_ (fun _ _ => rfl))
    · rintro i ρi d ⟨sl, hsl, rfl⟩ hd
      obtain ⟨hn, rfl⟩ := upI_get hd
      have hl := wordN_len c n f i
      obtain ⟨p1, p2, p3⟩ := pow2_lt (i := i) (by omega)
      have e1 : ((i : Int)).toNat = i := Int.toNat_natCast i
      have q1 : 0 < (2 : Int) ^ ((i : Int)).toNat := by rw [e1]; exact p1
      have q2 : (2 : Int) ^ ((i : Int)).toNat < 1073741824 := by rw [e1]; exact p2
      have hz : (wordN c n f i).1.length ≤ 16777216 := by omega
      refine ⟨_, .tail (.tail (.tail (.tail (.tail (.head hsl))))), ?_⟩
      refine Ex.cons (T.appI (i := bif bitOf c n f (wordN c n f i).2 i then 1 else 0) (f := .fr) (by tb_rel) ?_ hz (by ke_reads) ?_ (by decide) (fun _ => rfl))
      · refine T.ifI (q := bitOf c n f (wordN c n f i).2 i) (f1 := .fr) (f2 := .fr) ?_ Ev.int Ev.int
        exact T.tr (Tr.and2 (by kst_p) (by kst_p)) (by simp only [bitOf, e1])
      have hl' : ((wordN c n f i).1 ++ [bif bitOf c n f (wordN c n f i).2 i then (1 : Int) else 0]).length = i + 1 := by rw [List.length_append, hl]; rfl
      have hz' : ((wordN c n f i).1 ++ [bif bitOf c n f (wordN c n f i).2 i then (1 : Int) else 0]).length ≤ 16777216 := by omega
      have hg : ((wordN c n f i).1 ++ [bif bitOf c n f (wordN c n f i).2 i then (1 : Int) else 0]).getD i 0 = bif bitOf c n f (wordN c n f i).2 i then 1 else 0 := by
        rw [List.getD_eq_getElem?_getD, List.getElem?_append_right (by omega), hl, Nat.sub_self]; rfl
      have hlt : (i : Int) < (((wordN c n f i).1 ++ [bif bitOf c n f (wordN c n f i).2 i then (1 : Int) else 0]).length : Nat) := by omega
      refine Ex.cons (Ex1.ite (b := bitOf c n f (wordN c n f i).2 i) (T.tr (by kst_p) ?_) (fun h => ?_) (fun h => ?_))
      · rw [e1, hg]
        cases bitOf c n f (wordN c n f i).2 i <;> rfl
      · refine Ex.cons (T.aug (by tb_rel) (by ktr_rel) (op_imul hf) (by ke_reads) ?_)
        refine Ex.nil (Ex.nil ⟨.val (.int i), (fun _ h => nomatch h), ?_⟩)
        simp only [wordN, h, cond_true]
      · refine Ex.nil (Ex.nil ⟨.val (.int i), (fun _ h => nomatch h), ?_⟩)
        simp only [wordN, h, cond_false]
    · rintro ρ' ⟨sl, hsl, rfl⟩
      rw [upI_len]
      have hl := wordN_len c n f n
      have hz : (wordN c n f n).1.length ≤ 16777216 := by omega
      refine Ex.cons (Ex1.ite (b := !(wordN c n f n).1.any (· == 1)) (T.tcmp Ev.int (T.oLI (by tb_rel)) op_notInL (by with_unfolding_all rfl)) (fun h => ?_) (fun h => ?_))
      · refine Ex.cons (T.setI (n := (n : Int) - 1) (i := 1) (f := .fr) (f1 := .fr) (by tb_rel) Ev.int (by ktr_rel) (by omega) (by omega) hz (by ke_reads) ?_ (fun _ => rfl))
        refine Ex.nil (Ex.cons (T.retM (T.oLI (by tb_rel)) ?_))
        show PyData.list _ = _
        rw [show wordF c n f = (wordN c n f n).1.set (n - 1) 1 by unfold wordF; rw [show ((wordN c n f n).1.any (· == 1)) = false by simpa using h]; rfl, show ((n : Int) - 1).toNat = n - 1 by omega]
      · refine Ex.nil (Ex.cons (T.retM (T.oLI (by tb_rel)) ?_))
        show PyData.list _ = _
        rw [show wordF c n f = (wordN c n f n).1 by unfold wordF; rw [show ((wordN c n f n).1.any (· == 1)) = true by simpa using h]; rfl]

def homeN (wd : List Int) (f : Int) : Nat → Int × Int
  | 0 => (0, 1)
  | i + 1 => bif wd.getD (wd.length - 1 - i) 0 == 1 then ((homeN wd f i).1 + (homeN wd f i).2 * 2 ^ (wd.length - 1 - i), (homeN wd f i).2 * f) else homeN wd f i

theorem home_fn {w : World} {wd : List Int} {f : Int} (h1 : wd.length ≤ 4) (hf : f.natAbs < 2 ^ 63) : Fn w 1 (.ref 121) [.list (wd.map .int), .int f] (.int (homeN wd f wd.length).1) := by
  refine fn_def (ps := [Str.ofString "word", Str.ofString "factor"]) (ls := [Str.ofString "told", Str.ofString "behind", Str.ofString "place"]) (gs := [(Str.ofString "range", .type "range"), (Str.ofString "len", .builtin "len")]) (by k_is) (by k_is) (by k_is) ?_ (by decide) (by decide +kernel) (by decide +kernel) ?_ (by decide +kernel) (by decide +kernel) rfl ?_
  · exact fun s => len2 fun a b => BindsTo.of_eq rfl
  · intro g hg
    rcases List.mem_cons.mp hg with rfl | hg
    · exact ⟨rfl, .inr ⟨by k_is, by kernel_rfl, by decide⟩⟩
    · rw [List.mem_singleton.mp hg]
      exact ⟨rfl, .inr ⟨by k_is, by kernel_rfl, by decide⟩⟩
  · show Ex w 0 [(Str.ofString "word", .val (.list (wd.map .int))), (Str.ofString "factor", .val (.int f)), (Str.ofString "told", .free), (Str.ofString "behind", .free), (Str.ofString "place", .free), (Str.ofString "range", .glob (.type "range")), (Str.ofString "len", .glob (.builtin "len"))] _ _
    have hz : wd.length ≤ 16777216 := by omega
    refine Ex.cons (T.assign (by ktr_rel) (by ke_reads) ?_ (fun _ => rfl))
    refine Ex.cons (T.assign (by ktr_rel) (by ke_reads) ?_ (fun _ => rfl))
    refine Ex.cons (Ex1.for (It.range3 (n := wd.length) (Has.mem (by tb_rel)) (T.arg (f := .fr) (T.bin (T.call (by tb_rel) (T.arg (T.nL (by tb_rel)) EvL.nil fun _ => rfl) (by have := fn_len (w := w) (k := 0) (ds := wd.map PyData.int) (by rw [List.length_map]; omega); rwa [List.length_map] at this) (fun _ => rfl) (fun _ => rfl)) Ev.int op_sub) (T.arg (f := .fr) (T.neg Ev.int) (T.arg (f := .fr) (T.neg Ev.int) EvL.nil fun _ => rfl) fun _ => rfl) fun _ => rfl) (by omega) (fun _ => rfl) (fun _ => rfl))
      (fun i ρ => ∃ sl, (∀ v, sl ≠ .glob v) ∧ ρ = [(Str.ofString "word", .val (.list (wd.map .int))), (Str.ofString "factor", .val (.int f)), (Str.ofString "told", .val (.int (homeN wd f i).1)), (Str.ofString "behind", .val (.int (homeN wd f i).2)), (Str.ofString "place", sl), (Str.ofString "range", .glob (.type "range")), (Str.ofString "len", .glob (.builtin "len"))])
      ⟨.free, (fun _ h => nomatch h), rfl⟩ ?_ ?_ (fun _ _ => rfl))
    · rintro i ρi d ⟨sl, hsl, rfl⟩ hd
      obtain ⟨hn, rfl⟩ := downI_get hd
      have e1 : ((wd.length : Int) - 1 - (i : Int)).toNat = wd.length - 1 - i := by omega
      obtain ⟨p1, p2, p3⟩ := pow2_lt (i := wd.length - 1 - i) (by omega)
      have q3 : ((2 : Int) ^ ((wd.length : Int) - 1 - (i : Int)).toNat).natAbs < 2 ^ 63 := by rw [e1]; exact p3
      refine ⟨_, .tail (.tail (.tail (.tail (.head hsl)))), ?_⟩
      refine Ex.cons (Ex1.ite (b := wd.getD (wd.length - 1 - i) 0 == 1) (T.tr (by kst_p) (by rw [e1])) (fun h => ?_) (fun h => ?_))
      · refine Ex.cons (T.aug (by tb_rel) (by ktr_rel) op_iadd (by ke_reads) ?_)
        refine Ex.cons (T.aug (by tb_rel) (by ktr_rel) (op_imul hf) (by ke_reads) ?_)
        refine Ex.nil (Ex.nil ⟨.val (.int ((wd.length : Int) - 1 - (i : Int))), (fun _ h => nomatch h), ?_⟩)
        simp only [homeN, h, cond_true, e1]
      · refine Ex.nil (Ex.nil ⟨.val (.int ((wd.length : Int) - 1 - (i : Int))), (fun _ h => nomatch h), ?_⟩)
        simp only [homeN, h, cond_false]
    · rintro ρ' ⟨sl, hsl, rfl⟩
      rw [downI_len]
      refine Ex.cons (T.ret (by ktr_rel) ?_)
      rfl
end PartL15
section PartN1
section
variable {w : World} {k : Nat} {ρ ρ' : List (Str × Sl)} {e : Expr} {es : List Expr} {d : PyData} {ds ds' : List PyData} {f g : Fl} {P : Out → Prop} {st : Stmt} {rest : List Stmt} {x y : Str} {p pos : Pos} {sc scope : Scope}

/-- statements of a def whose scope is known -/
def ExS (w : World) (k : Nat) (sc : Scope) (ρ : List (Str × Sl)) (t : Env → Sem Flow) (P : Out → Prop) : Prop :=
  ∀ ⦃A : Around⦄ ⦃s₀ s : Shared⦄ ⦃env : Env⦄ ⦃D : Str → Option Addr⦄, env.scope = sc → Room A k → St w s₀ env D ρ s → CellsThere env s → TB s → ∀ ⦃Q : Flow → Shared → Prop⦄ ⦃E : Value → Shared → Prop⦄,
    (∀ ρ' D' s', P (.nx ρ') → St w s₀ env D' ρ' s' → Fr2 env D D' s s' → TB s' → Q .next s') → (∀ d v s', P (.rt d) → RetOk s₀ s' v d → Q (.ret v) s') →
      wpAny (model prg w) A (t env) Q E s
theorem ExS.of {t : Env → Sem Flow} (h : ExG w k ρ t P) : ExS w k sc ρ t P := fun _ _ _ _ _ _ rm x cz tb _ _ q1 q2 => h rm x cz tb q1 q2
theorem ExS.consS (h : ExS w k sc ρ (exec st) fun o => match o with | .nx ρ' => ExS w k sc ρ' (execs rest) P | .rt d => P (.rt d)) : ExS w k sc ρ (execs (st :: rest)) P := by
  intro A s₀ s env D hs rm x cz tb Q E q1 q2
  refine wpAny_execs_cons (h hs rm x cz tb (fun ρ' D' s' hp x' fr tb' => ?_) fun d v s' hp r => q2 d v s' hp r)
  exact hp hs rm x' (cz.next fr) tb' (fun ρ'' D'' s'' hp'' x'' fr'' => q1 ρ'' D'' s'' hp'' x'' (fr.trans fr'')) q2
theorem ExS.cons (h : Ex1 w k ρ st fun o => match o with | .nx ρ' => ExS w k sc ρ' (execs rest) P | .rt d => P (.rt d)) : ExS w k sc ρ (execs (st :: rest)) P := ExS.consS (ExS.of h)

/-- what a comprehension walks over -/
def ItC (w : World) (k : Nat) (ρ : List (Str × Sl)) (iter : Expr) (xs : List PyData) : Prop :=
  ∀ ⦃A : Around⦄ ⦃c : Cx⦄ ⦃env : Env⦄ ⦃s : Shared⦄, Room A k → ES w c env ρ s.heap → TB s → ∀ ⦃Q : Value → Shared → Prop⦄ ⦃E : Value → Shared → Prop⦄,
    (∀ I h' tk fp Pi Stp, Ext s.heap h' → 499 ≤ tk → s.heap.get? I = none → Walks prg w A I fp [I] xs.length Pi Stp → Stp 0 h' → (∀ b ∈ fp, b < h'.objs.size) →
      (∀ i v, Pi i v → ∀ (h : Heap) (P' : Addr → Prop), ∃ d, xs[i]? = some d ∧ Rd h P' v d) → Q (.ref I) { s with heap := h', toks := tk }) →
    wpAny (model prg w) A (eval iter env) (fun x s₁ => wpAny (model prg w) A (pyIter x) Q E s₁) E s
theorem ItC.of {iter : Expr} {xs : List PyData} (h : It w k ρ iter xs) : ItC w k ρ iter xs := by
  intro A c env s rm es tb Q E q
  refine h rm es tb fun I h' tk fp Pi Stp e b hf W hst hfp hP hfl => q I h' tk fp Pi Stp e b hf W hst (fun b hb => ?_) hP
  rcases hfp b hb with rfl | ⟨_, o, ho⟩
  · obtain ⟨o, _, ho, _⟩ := hfl 0 h' hst
    exact Heap.lt_size ho
  · exact Heap.lt_size (e _ _ ho)
theorem ItC.ev {iter : Expr} (h : Ev w k ρ iter (.list ds) f) (ha : ds.all atom = true) : ItC w k ρ iter ds := by
  intro A c env s rm es tb Q E q
  refine h rm es tb fun v h' tk e b r => ?_
  obtain ⟨a, us, rfl, hl, r, hav⟩ := r.list_inv
  refine wpAny_pyIter_list (s := { s with heap := h', toks := tk }) hl.isList ?_
  have hlen := r.length
  rw [Array.length_toList] at hlen
  obtain ⟨oa, na, hoa, _⟩ := id hl
  have hne : a ≠ h'.objs.size := Nat.ne_of_lt (Heap.lt_size hoa)
  have W := Walks.list (prog := prg) (w := w) rm.hd h'.objs.size a hne us
  refine q h'.objs.size _ tk [h'.objs.size, a] _ _ (e.trans ext_push) b (e.none push_free) (hlen ▸ W) ⟨⟨_, Heap.get?_push_size _ rfl, rfl, rfl⟩, hl.isList.push _⟩ ?_ ?_
  · intro b hb
    show b < (h'.push _).objs.size
    rw [Heap.size_push]
    rcases List.mem_cons.mp hb with rfl | hb
    · exact Nat.lt_succ_self _
    · rw [List.mem_singleton.mp hb]
      exact Nat.lt_succ_of_lt (Heap.lt_size hoa)
  · intro i v hv h2 P'
    obtain ⟨d, hd, hr⟩ := r.get' (i := i) (v := v) (by simpa using hv)
    exact ⟨d, hd, hr.of_atom_heap (List.all_eq_true.mp ha d (List.mem_of_getElem? hd))⟩

theorem lookup_relabel {env : Env} : ∀ {names : List (Str × NameKind)} {x : Str} {kd : NameKind}, names.lookup x = some kd →
    (names.map fun (n, k) => if (k == NameKind.free && env.scope.kind == .function && env.kindOf n == some .cell) then (n, NameKind.cell) else (n, k)).lookup x = some (if (kd == NameKind.free && env.scope.kind == .function && env.kindOf x == some .cell) then .cell else kd)
  | [], _, _, h => by simp at h
  | (n, k) :: r, x, kd, h => by
    have ih := @lookup_relabel env r x kd
    show List.lookup x ((if (k == NameKind.free && env.scope.kind == .function && env.kindOf n == some .cell) = true then (n, NameKind.cell) else (n, k)) :: _) = _
    cases hx : x == n with
    | true =>
      have e : x = n := by simpa using hx
      simp only [List.lookup_cons, hx] at h
      cases h
      subst e
      split <;> rename_i hc
      · rw [List.lookup_cons]; simp
      · rw [List.lookup_cons]; simp
    | false =>
      simp only [List.lookup_cons, hx] at h
      by_cases hc : (k == NameKind.free && env.scope.kind == .function && env.kindOf n == some .cell) = true
      · rw [if_pos hc]; simp only [List.lookup_cons, hx]; exact ih h
      · rw [if_neg hc]; simp only [List.lookup_cons, hx]; exact ih h

/-- what an item of the walk is, and what the expression makes of it -/
def FI (g : Int → PyData) (v y : Value) : Prop := ∀ i t, v = .int i t → ∀ (h : Heap) (P : Addr → Prop), Rd h P y (g i)

theorem paired_rd {g : Int → PyData} {h : Heap} {P : Addr → Prop} : ∀ {vs ys : List Value} {is : List Int}, Paired (FI g) vs ys → vs.length = is.length → (∀ (j : Nat) (v : Value), vs[j]? = some v → ∃ i t, is[j]? = some i ∧ v = Value.int i t) → RdL h P ys (is.map g)
  | _, _, [], .nil, _, _ => .nil
  | _, _, _ :: _, .nil, hl, _ => by simp at hl
  | _, _, [], .cons _ _, hl, _ => by simp at hl
  | v :: vs, y :: ys, i :: is, .cons hf hr, hl, hj => by
    obtain ⟨i', t, h1, h2⟩ := hj 0 v rfl
    simp at h1
    subst h1 h2
    exact .cons (hf _ _ rfl h P) (paired_rd hr (by simpa using hl) fun j v hv => hj (j + 1) v (by simpa using hv))

theorem map_int_get (h0 : Heap) {is : List Int} {j : Nat} {v : Value} (hP : ∀ (h : Heap) (P' : Addr → Prop), ∃ d, (is.map PyData.int)[j]? = some d ∧ Rd h P' v d) : ∃ i t, is[j]? = some i ∧ v = Value.int i t := by
  obtain ⟨d, hd, r⟩ := hP h0 fun _ => True
  rw [List.getElem?_map] at hd
  cases hi : is[j]? with
  | none => rw [hi] at hd; cases hd
  | some i =>
    rw [hi] at hd
    cases hd
    obtain ⟨t, rfl⟩ := r.int_inv
    exact ⟨i, t, rfl, rfl⟩

/-- the walk's expression, quiet -/
theorem comp_quiet {A : Around} {env : Env} {s₂ : Shared} {h0 : Heap} {I : Addr} {elt : Expr} {cl : List (Str × Addr)} {cs : List (Str × PyData)} {gs : List (Str × Value)} {is : List Int} {g : Int → PyData} {Pi : Nat → Value → Prop}
    (rm : Room A k) (wd : Wd w h0) (hgl : Gl env) (tb : TB s₂) (e : Ext h0 s₂.heap) (hI : h0.get? I = none)
    (hkind : scope.kind = .function) (hx : scope.names.lookup x = some .local)
    (hcs : ∀ c ∈ cs, ∃ a v, scope.names.lookup c.1 = some .free ∧ env.kindOf c.1 = some .cell ∧ env.scope.kind = .function ∧ cl.lookup c.1 = some a ∧ h0.IsCell a (some v) ∧ Rd h0 (fun _ => True) v c.2) (hgs : ∀ g ∈ gs, GlobOk w scope g.1 g.2)
    (hdb : ∀ y ∈ x :: (cs.map (·.1) ++ gs.map (·.1)), (y == ("__debug__" : Str)) = false)
    (hP : ∀ i v, Pi i v → ∀ (h : Heap) (P' : Addr → Prop), ∃ d, (is.map PyData.int)[i]? = some d ∧ Rd h P' v d)
    (hat : ∀ i ∈ is, atom (g i) = true)
    (he : ∀ i ∈ is, Ev w k ((x, Sl.val (.int i)) :: (cs.map (fun c => (c.1, Sl.val c.2)) ++ gs.map (fun g => (g.1, Sl.glob g.2)))) elt (g i) f) :
    QuietOnC prg w A env scope cl x [] elt [I] Pi (fun _ => true) (FI g) s₂ := by
  refine ⟨fun C i v s₃ m₃ E' _ _ _ _ _ _ => wpAny_tests_nil ⟨rfl, s₃.heap, s₃.toks, rfl, fun _ _ e => e⟩, fun C i v s₃ m₃ E' hC hv _ hn hm hk htk => ?_⟩
  obtain ⟨j, t, hj, rfl⟩ := map_int_get h0 (hP i v hv)
  have hmem : j ∈ is := List.mem_of_getElem? hj
  have e3 : Ext h0 s₃.heap := fun b o ho => hk b o (by rintro hb; rw [List.mem_singleton.mp hb, hI] at ho; cases ho) (e b o ho)
  have hkc : (compEnvC scope cl C env).scope.kind = .function := hkind
  have es : ES w ⟨s₃.heap, fun _ => True⟩ (compEnvC scope cl C env) ((x, Sl.val (.int j)) :: (cs.map (fun c => (c.1, Sl.val c.2)) ++ gs.map (fun g => (g.1, Sl.glob g.2)))) s₃.heap := by
    refine ⟨wd.keeps e3, fun _ _ => trivial, fun _ h => h, fun y sl hy => ?_, ?_, hgl⟩
    · rcases List.mem_cons.mp hy with q | hy
      · cases q
        refine ⟨_, ?_, .int j t⟩
        intro M A s Q E e q
        exact wpAny_loadName_local hkc (lookup_relabel_local hx) (hn.keeps e) hm q
      · rcases List.mem_append.mp hy with hy | hy
        · obtain ⟨c, hc, q⟩ := List.mem_map.mp hy
          cases q
          obtain ⟨a, v, h1, h2, h3, h4, h5, h6⟩ := hcs c hc
          refine ⟨v, ?_, (h6.keeps e3).mono fun _ _ => trivial⟩
          intro M A s Q E e q
          refine wpAny_loadName_cell hkc ?_ h4 ((h5.keeps e3).keeps e) q
          have := lookup_relabel (env := env) h1
          exact this.trans (by rw [h2, h3]; rfl)
        · obtain ⟨gg, hg, q⟩ := List.mem_map.mp hy
          cases q
          obtain ⟨h1, h2⟩ := hgs gg hg
          refine @GlobOk.loads w (compEnvC scope cl C env) s₃.heap gg.1 gg.2 ⟨?_, h2⟩ (wd.keeps e3) hkc hgl.1 hgl.2
          exact lookup_relabel (env := env) h1
    · intro y hy
      refine hdb y ?_
      simpa [List.map_map, Function.comp_def] using hy
  refine he j hmem rm es (Nat.le_trans tb htk) fun y h' tk e' b' r => ⟨?_, h', tk, rfl, e'⟩
  intro i' t' q h P
  cases q
  exact r.of_atom_heap (hat _ hmem)

theorem relist {g : Int → PyData} {h' : Heap} {D : Addr} {ys : Array Value} {vs : List Value} {is : List Int} {Pi : Nat → Value → Prop} {P : Addr → Prop}
    (hP : ∀ i v, Pi i v → ∀ (h : Heap) (P' : Addr → Prop), ∃ d, (is.map PyData.int)[i]? = some d ∧ Rd h P' v d) (hl : h'.PlainList D ys) (hlen : vs.length = (is.map PyData.int).length)
    (hv : ∀ j v, vs[j]? = some v → Pi j v) (hF : Paired (FI g) (vs.filter fun _ => true) ys.toList) (hD : P D) : Rd h' P (.ref D) (.list (is.map g)) := by
  obtain ⟨n, hn⟩ := hl
  rw [List.filter_eq_self.mpr fun _ _ => rfl] at hF
  exact .list ⟨_, n, hn, rfl, rfl, rfl⟩ (paired_rd hF (by simpa using hlen) fun j v h => map_int_get h' (hP j v (hv j v h))) hD

/-- a comprehension that catches no name -/
theorem Ev.comp {elt iter : Expr} {px : Pos} {gs : List (Str × Value)} {is : List Int} {g : Int → PyData} (hit : ItC w k ρ iter (is.map .int))
    (hclos : ∀ env, closureFor scope env = pure []) (hcell : ∀ y ∈ scope.names, y.2 ≠ .cell) (hkind : scope.kind = .function)
    (hnames : ∀ y ∈ scope.names, y.2 = .local → scope.names.lookup y.1 = some .local) (hx : scope.names.lookup x = some .local) (hgs : ∀ g ∈ gs, GlobOk w scope g.1 g.2)
    (hdb : ∀ y ∈ x :: gs.map (·.1), (y == ("__debug__" : Str)) = false) (hz : is.length ≤ 16777216)
    (hat : ∀ i ∈ is, atom (g i) = true)
    (he : ∀ i ∈ is, Ev w k ((x, Sl.val (.int i)) :: gs.map (fun g => (g.1, Sl.glob g.2))) elt (g i) f)
    (hs : ∀ env x, foldedSetIterable iter env x = pure x) : Ev w k ρ (.ListComp elt [⟨.Name x px, iter, [], 0⟩] scope pos) (.list (is.map g)) .fr := by
  intro A c env s rm es tb
  refine Ys.of tb fun Q E q => ?_
  refine wpAny_ListComp_free (p := fun _ => true) (F := FI g) (hclos env) hcell hkind hnames hx (hit rm es tb fun I h' tk fp Pi Stp e b hf W hst hfp hP => ?_) (hs env)
  refine ⟨I, fp, [I], _, Pi, Stp, rfl, W, by rw [sizeLine_eq, List.length_map]; exact hz, hst, hfp, ?_, ?_⟩
  · exact comp_quiet (cs := []) rm es.wd es.gl (s₂ := { s with heap := h', toks := tk }) b e hf hkind hx (fun _ h => nomatch h) hgs hdb hP hat he
  · intro D h2 tk2 ys vs hD hl hpl hlen hv hF hk
    refine q (.ref D) h2 tk2 (fun b o ho => hk b o ?_ (e b o ho)) (relist hP hpl hlen hv hF (e.none hD))
    intro hb
    rw [List.mem_singleton.mp hb, hf] at ho; cases ho

/-- a comprehension that catches two names of the def, stored to a local name -/
theorem ExS.comp {elt iter : Expr} {px py : Pos} {c1 c2 : Str} {d1 d2 : PyData} {spos : Pos} {gs : List (Str × Value)} {is : List Int} {g : Int → PyData} (hit : ItC w k ρ iter (is.map .int))
    (hsw : ∀ env : Env, env.scope = sc → swapsWith (.ListComp elt [⟨.Name x px, iter, [], 0⟩] scope pos) (some (.Name y py)) spos.line env = pure true)
    (hclos : ∀ (env : Env) a1 a2, env.cells.lookup c1 = some a1 → env.cells.lookup c2 = some a2 → closureFor scope env = pure [(c2, a2), (c1, a1)]) (hne : (c1 == c2) = false)
    (hy : sc.names.lookup y = some .local) (hc1 : sc.names.lookup c1 = some .cell) (hc2 : sc.names.lookup c2 = some .cell)
    (hm1 : (c1, Sl.val d1) ∈ ρ) (hm2 : (c2, Sl.val d2) ∈ ρ) (hl1 : scope.names.lookup c1 = some .free) (hl2 : scope.names.lookup c2 = some .free)
    (hcell : ∀ y ∈ scope.names, y.2 ≠ .cell) (hkind : scope.kind = .function)
    (hnames : ∀ y ∈ scope.names, y.2 = .local → scope.names.lookup y.1 = some .local) (hx : scope.names.lookup x = some .local) (hgs : ∀ g ∈ gs, GlobOk w scope g.1 g.2)
    (hdb : ∀ y ∈ x :: (c2 :: [c1] ++ gs.map (·.1)), (y == ("__debug__" : Str)) = false) (hz : is.length ≤ 16777216)
    (hat : ∀ i ∈ is, atom (g i) = true)
    (he : ∀ i ∈ is, Ev w k ((x, Sl.val (.int i)) :: ([(c2, Sl.val d2), (c1, Sl.val d1)] ++ gs.map (fun g => (g.1, Sl.glob g.2)))) elt (g i) f)
    (hs : ∀ env x, foldedSetIterable iter env x = pure x) (hset : SetIn y (.val (.list (is.map g))) ρ ρ') (hp : P (.nx ρ')) :
    ExS w k sc ρ (exec (.Assign [.Name y py] (.ListComp elt [⟨.Name x px, iter, [], 0⟩] scope pos) spos)) P := by
  intro A s₀ s env D hsc rm st cz tb Q E q1 q2
  have es := st.es cz
  obtain ⟨m, cm, ic, vs⟩ := st.ic
  have cellOf : ∀ {c d}, (c, Sl.val d) ∈ ρ → sc.names.lookup c = some .cell → ∃ a v, env.kindOf c = some .cell ∧ env.cells.lookup c = some a ∧ s.heap.IsCell a (some v) ∧ Rd s.heap (avOf env D) v d := by
    intro c d hm hc
    obtain ⟨v, hv, r⟩ := vs c _ hm
    have hk : env.kindOf c = some .cell := by show env.scope.names.lookup c = _; rw [hsc]; exact hc
    rcases hv with ⟨h, _⟩ | ⟨_, ⟨a, ha⟩, hv⟩
    · rw [hk] at h; cases h
    · exact ⟨a, v, hk, ha, hv ▸ ic.cell c a ha, r⟩
  obtain ⟨a1, v1, hk1, ha1, hi1, r1⟩ := cellOf hm1 hc1
  obtain ⟨a2, v2, hk2, ha2, hi2, r2⟩ := cellOf hm2 hc2
  have hky : env.kindOf y = some .local := by show env.scope.names.lookup y = _; rw [hsc]; exact hy
  have hnc : (env.scope.kind == .class || (env.scope.kind == .module && env.locals != env.globals)) = false := by rw [st.kind]; rfl
  refine asm tb (wpAny_Assign_ListComp_free (p := fun _ => true) (F := FI g) (hsw env hsc) (hclos env a1 a2 ha1 ha2) hcell hkind hnames hx hky hnc (hit rm es tb fun I h' tk fp Pi Stp e b hf W hst hfp hP => ?_) (hs env))
  have hLI : env.locals ≠ I := by
    rintro rfl
    obtain ⟨o, _, _, ho, _⟩ := get_of_ns ic.toInCall.ns
    rw [hf] at ho; cases ho
  refine ⟨I, fp, [I], _, Pi, Stp, m, rfl, W, by rw [sizeLine_eq, List.length_map]; exact hz, hst, hfp, by simpa using hLI, ic.toInCall.ns.keeps e, ?_, ?_⟩
  · refine comp_quiet (cs := [(c2, d2), (c1, d1)]) rm es.wd es.gl (s₂ := { s with heap := h', toks := tk }) b e hf hkind hx ?_ hgs hdb hP hat he
    intro c hc
    rcases List.mem_cons.mp hc with rfl | hc
    · exact ⟨a2, v2, hl2, hk2, st.kind, by simp, hi2, r2.mono fun _ _ => trivial⟩
    · rw [List.mem_singleton.mp hc]
      exact ⟨a1, v1, hl1, hk1, st.kind, by simp [List.lookup_cons, hne], hi1, r1.mono fun _ _ => trivial⟩
  · intro Dd h2 tk2 ys us hD hl hpl hlen hv hF hns hk b2
    have old : ∀ b o, b ≠ env.locals → s.heap.get? b = some o → h2.get? b = some o := by
      intro b o hb ho
      refine hk b o hb ?_ (e b o ho)
      intro hb'
      rw [List.mem_singleton.mp hb', hf] at ho; cases ho
    obtain ⟨hh, tt, hsame⟩ := ic.toInCall.same
    have hDav : avOf env D Dd := es.fav Dd (e.none hD)
    have i' : InCallC s₀ env.locals (fun z => if z = y then some (.ref Dd) else m z) env.cells cm { s with heap := h2, toks := tk2 } := by
      refine ⟨⟨⟨h2, tk2, by rw [hsame]⟩, hns, fun b o q => old b o (fun e => ?_) (ic.toInCall.keep b o q), ic.toInCall.fresh⟩, fun n c hc => ?_, ic.apart, ic.above⟩
      · have := Heap.lt_size q
        rw [e] at this
        exact Nat.not_lt.mpr ic.toInCall.fresh this
      · obtain ⟨o, ho, hd⟩ := ic.cell n c hc
        exact ⟨o, old c o (Nat.ne_of_gt (ic.above n c (mem_of_lookup hc))) ho, hd⟩
    refine q1 ρ' D { s with heap := h2, toks := tk2 } hp (st.put vs hset i' (fun z hz => if_neg hz) (fun _ _ => rfl) (fun _ _ => rfl) (fun a h => .inl h) (fun a ha => ?_) (fun b o hb ho => old b o ?_ ho) ⟨.ref Dd, .inl ⟨hky, if_pos rfl⟩, relist hP hpl hlen hv hF hDav⟩) ⟨?_, fun b o av ho => old b o av.1 ho, fun _ _ h => .inl h⟩ b2
    · obtain ⟨h1, h2', h3, o, xs, n, ho, hd⟩ := st.dn y a ha
      exact ⟨h1, h2', h3, o, xs, n, old a o h2' ho, hd⟩
    · rcases hb with av | ⟨z, _, hz⟩
      · exact av.1
      · exact (st.dn z b hz).2.1
    · intro b o ho
      by_cases hb : b = env.locals
      · obtain ⟨o', _, _, ho', _⟩ := get_of_ns hns
        exact ⟨o', hb ▸ ho'⟩
      · exact ⟨o, old b o hb ho⟩
end
end PartN1
section PartM5
/-- a def of one parameter with cells of its own -/
theorem fn_defC {w : World} {k : Nat} {a : Addr} {oc : Value} {od : Option Addr} {name qual : Str} {params : Arguments} {body : List Stmt} {scope : Scope} {dV kV doc pm cdv ct : Value} {an : Option Addr} {osl : Array (Option Value)} {x : Str} {ls : List Str} {gs : List (Str × Value)} {d0 d : PyData}
    (ho : (MineHead.heapK w.params).lookup a = some ⟨oc, od, .func (fnOf name qual params body scope dV kV doc pm an cdv ct), osl⟩) (hcd : codeIn (MineHead.heapK w.params) cdv qual = true) (hk : keepIn (MineHead.heapK w.params) (.ref a) = true)
    (hbind : ∀ v, bindArgs (fnOf name qual params body scope dV kV doc pm an cdv ct) ⟨[v], []⟩ = pure [(x, v)])
    (hx : scope.names.lookup x = some .local) (hls : ∀ y ∈ ls, scope.names.lookup y = some .local ∨ (scope.names.lookup y = some .cell ∧ ∀ L, ∃ c, (cellsFrom L scope.names []).lookup y = some c)) (hgs : ∀ g ∈ gs, GlobOk w scope g.1 g.2)
    (hcu : ∀ L n c, (n, c) ∈ cellsFrom L scope.names [] → (cellsFrom L scope.names []).lookup n = some c)
    (hnd : (x :: ls ++ gs.map (·.1)).Nodup) (hdb : ∀ y ∈ x :: ls ++ gs.map (·.1), (y == ("__debug__" : Str)) = false)
    (hb : ExS w k scope ((x, Sl.val d0) :: ls.map (fun x => (x, Sl.free)) ++ gs.map (fun g => (g.1, Sl.glob g.2))) (execs body) (fun o => match o with | .rt d' => d' = d | .nx _ => False))
    (hco : scope.isCoroutine = false := by rfl) (hgen : scope.isGenerator = false := by rfl) (hkf : scope.kind = .function := by rfl) : Fn w (k + 1) (.ref a) [d0] d where
  keep := fun h x => keeps_K hk h x.X
  run := by
    intro A s P vs rm wd tb r Q E q
    obtain ⟨v, rfl, r1⟩ := r.one_inv
    obtain ⟨p, lo, me, mg, mb, T⟩ := wd.T
    refine wpAny_call (codeAny_call_function (fd := fnOf name qual params body scope dV kV doc pm an cdv ct) (body := body) (by have := rm.dep; omega) (wd.X _ _ ho) rfl hco hgen rfl (codeRec_of wd.X hcd) ?_)
    rw [hbind v]
    refine wpAny_pure (asm tb (wpAny_newFunctionEnv_cells hkf (binds := [(x, v)]) (fun y hy => by rw [List.mem_singleton.mp hy]; exact .inl hx) fun env he s₁ ic b1 => ?_))
    subst he
    refine ⟨T.nolimit.keeps ic.toInCall.keep, codeAny_func ?_⟩
    replace ic : InCallC s (callEnvC (fnOf name qual params body scope dV kV doc pm an cdv ct) s.heap.objs.size a).locals (bindL (callEnvC (fnOf name qual params body scope dV kV doc pm an cdv ct) s.heap.objs.size a).kindOf [(x, v)] fun _ => none) (callEnvC (fnOf name qual params body scope dV kV doc pm an cdv ct) s.heap.objs.size a).cells (bindC (callEnvC (fnOf name qual params body scope dV kV doc pm an cdv ct) s.heap.objs.size a).kindOf [(x, v)] fun _ => none) s₁ := ic
    have hnd3 : (x :: ls ++ gs.map (·.1)) = ((x, Sl.val d0) :: ls.map (fun x => (x, Sl.free)) ++ gs.map (fun g => (g.1, Sl.glob g.2))).map (·.1) := by
      simp only [List.map_append, List.map_cons, List.map_map]
      rw [show ((fun x : Str × Sl => x.1) ∘ fun x : Str => (x, Sl.free)) = id from rfl, List.map_id]; rfl
    have ez : ∀ n c, (n, c) ∈ (callEnvC (fnOf name qual params body scope dV kV doc pm an cdv ct) s.heap.objs.size a).cells → ∃ o, s₁.heap.get? c = some o := fun n c hc => let ⟨o, ho, _⟩ := ic.cell n c (hcu _ n c hc); ⟨o, ho⟩
    have st : St w s (callEnvC (fnOf name qual params body scope dV kV doc pm an cdv ct) s.heap.objs.size a) (fun _ => none) ((x, Sl.val d0) :: ls.map (fun x => (x, Sl.free)) ++ gs.map (fun g => (g.1, Sl.glob g.2))) s₁ := by
      refine ⟨wd, hkf, hnd3 ▸ hnd, hnd3 ▸ hdb, ⟨rfl, rfl⟩, (fun _ _ h => nomatch h), (fun _ _ _ h => nomatch h), _, _, ic, fun y sl hm => ?_⟩
      rcases List.mem_append.mp hm with hm | hm
      · rcases List.mem_cons.mp hm with e | hm
        · cases e
          refine ⟨v, .inl ⟨hx, ?_⟩, ?_⟩
          · show (if _ = some NameKind.local then (fun y => if y = x then some v else none) else fun _ => none) x = some v
            exact (congrFun (if_pos hx) x).trans (if_pos rfl)
          · refine (r1.there fun c o _ ho => ⟨?_, fun n c' hc' e => ?_, fun _ h => nomatch h⟩).keeps ic.toInCall.keep
            · exact Nat.ne_of_lt (Heap.lt_size ho)
            · have h1 := ic.above n c' hc'
              have h2 := Heap.lt_size ho
              rw [e] at h2
              exact Nat.lt_asymm h1 h2
        · obtain ⟨y, hy, e⟩ := List.mem_map.mp hm
          cases e
          rcases hls y hy with h | ⟨h1, h2⟩
          · exact .inl h
          · exact .inr ⟨h1, h2 _⟩
      · obtain ⟨g, hg, e⟩ := List.mem_map.mp hm
        cases e
        exact @GlobOk.loads w (callEnvC (fnOf name qual params body scope dV kV doc pm an cdv ct) s.heap.objs.size a) s.heap g.1 g.2 (hgs g hg) wd hkf rfl rfl
    refine hb rfl (rm.deeper _) st ez b1 (fun _ _ _ h => h.elim) fun d' u s' hd hr => ?_
    subst hd
    obtain ⟨⟨h', tk, rfl⟩, he, hr⟩ := hr
    exact q u h' tk he hr
end PartM5
section PartN4
section
variable {w : World} {k : Nat}
theorem strOk_of (x : String) : PyData.strOk (Str.ofString x) = true := by
  rw [Str.ofString_eq_toList]
  unfold PyData.strOk
  rw [← Array.all_toList]
  refine List.all_eq_true.mpr fun c hc => ?_
  simp only [List.mem_map] at hc
  obtain ⟨a, _, rfl⟩ := hc
  have := a.valid
  simp only [decide_eq_true_eq]
  unfold UInt32.isValidChar Nat.isValidChar at this
  show a.val.toNat < 1114112
  omega
theorem canLay_strs : ∀ ns : List Str, ns.all PyData.strOk = true → PyData.canLayAll0 (ns.map PyData.str) = true
  | [], _ => by simp [PyData.canLayAll0]
  | n :: r, h => by
    simp only [List.all_cons, Bool.and_eq_true] at h
    simp [PyData.canLayAll0, PyData.canLay0, h.1, canLay_strs r h.2]
theorem depth_strs : ∀ ns : List Str, PyData.depthAll (ns.map PyData.str) ≤ 1
  | [] => by simp [PyData.depthAll]
  | n :: r => by
    have := depth_strs r
    simp only [List.map_cons, PyData.depthAll, PyData.depth]
    omega
theorem shaped_strs (ns : List Str) (h : ns.all PyData.strOk = true) : SeqAt.shaped (.list (ns.map PyData.str)) = true := by
  have h1 := depth_strs ns
  have h2 : PyData.depth (.list (ns.map PyData.str)) ≤ 64 := by simp only [PyData.depth]; omega
  show (PyData.canLay0 (.list (ns.map PyData.str)) && decide (PyData.depth (.list (ns.map PyData.str)) ≤ 64)) = true
  rw [Bool.and_eq_true]
  exact ⟨by simp only [PyData.canLay0]; exact canLay_strs ns h, decide_eq_true h2⟩
theorem noMix_strs : ∀ ns ms : List Str, SeqAt.noMixAll (ns.map PyData.str) (ms.map PyData.str) = true
  | [], [] => by simp [SeqAt.noMixAll]
  | [], _ :: _ => by simp [SeqAt.noMixAll]
  | _ :: _, [] => by simp [SeqAt.noMixAll]
  | _ :: r, _ :: q => by simp [SeqAt.noMixAll, SeqAt.noMix, noMix_strs r q]
theorem same_strs : ∀ ns ms : List Str, PySem.Spec.sameAll (ns.map PyData.str) (ms.map PyData.str) = decide (ns = ms)
  | [], [] => by simp [PySem.Spec.sameAll]
  | [], _ :: _ => by simp [PySem.Spec.sameAll]
  | _ :: _, [] => by simp [PySem.Spec.sameAll]
  | n :: r, k :: q => by
    simp only [List.map_cons, PySem.Spec.sameAll, PySem.Spec.same, same_strs r q]
    by_cases h1 : n = k <;> by_cases h2 : r = q <;> simp [h1, h2]
theorem noTup_strs : ∀ ns : List Str, noTupL (ns.map .str) = true
  | [] => rfl
  | n :: ns => noTup_strs ns
theorem op_neLS {ns ms : List Str} (h1 : ns.all PyData.strOk = true) (h2 : ms.all PyData.strOk = true) : Op2 w k (compareOp .NotEq) (.list (ns.map .str)) (.list (ms.map .str)) (.bool (!decide (ns = ms))) := by
  intro A s P1 P2 v1 v2 r wd r1 r2 Q E q
  obtain ⟨as, r1⟩ := r1.reads (by simpa only [noTup] using noTup_strs ns)
  obtain ⟨bs, r2⟩ := r2.reads (by simpa only [noTup] using noTup_strs ms)
  exact ne_dataH_same r1 r2 (shaped_strs ns h1) (shaped_strs ms h2) r.u64 (by simp only [SeqAt.noMix]; exact noMix_strs ns ms) (by simp only [PySem.Spec.same]; rw [same_strs]; exact q _ s.heap s.toks Ext.rfl (.bool _))
end
end PartN4
section PartL16
theorem concat_fn {w : World} {a b : List Nat} (h : a.length + b.length ≤ 16777216) : Fn w 1 (.ref 66) [.str (S a), .str (S b)] (.str (S (a ++ b))) := by
  refine fn_def (ps := [Str.ofString "a", Str.ofString "b"]) (ls := []) (gs := [(Str.ofString "hasattr", .builtin "hasattr")]) (by k_is) (by k_is) (by k_is) ?_ (by decide) (by decide +kernel) (by decide +kernel) ?_ (by decide +kernel) (by decide +kernel) rfl ?_
  · exact fun s => len2 fun a b => BindsTo.of_eq rfl
  · intro g hg
    rw [List.mem_singleton.mp hg]
    exact ⟨rfl, .inr ⟨by k_is, by kernel_rfl, by decide⟩⟩
  · show Ex w 0 [(Str.ofString "a", .val (.str (S a))), (Str.ofString "b", .val (.str (S b))), (Str.ofString "hasattr", .glob (.builtin "hasattr"))] _ _
    refine Ex.cons (Ex1.ite (b := false) (T.tr (Tr.not (T.test (T.call (by tb_rel) (T.arg (T.nS (by tb_rel)) (T.arg Ev.str EvL.nil fun _ => rfl) fun _ => rfl) fn_hasS (fun _ => rfl) (fun _ => rfl)) (fun _ _ => rfl))) rfl) (fun h => nomatch h) (fun _ => ?_))
    refine Ex.nil (Ex.cons (T.ret (by ktr_rel) ?_))
    rfl
theorem concatL_fn {w : World} {a b : List Int} (h : a.length + b.length ≤ 16777216) : Fn w 1 (.ref 66) [.list (a.map .int), .list (b.map .int)] (.list ((a ++ b).map .int)) := by
  refine fn_def (ps := [Str.ofString "a", Str.ofString "b"]) (ls := []) (gs := [(Str.ofString "hasattr", .builtin "hasattr")]) (by k_is) (by k_is) (by k_is) ?_ (by decide) (by decide +kernel) (by decide +kernel) ?_ (by decide +kernel) (by decide +kernel) rfl ?_
  · exact fun s => len2 fun a b => BindsTo.of_eq rfl
  · intro g hg
    rw [List.mem_singleton.mp hg]
    exact ⟨rfl, .inr ⟨by k_is, by kernel_rfl, by decide⟩⟩
  · show Ex w 0 [(Str.ofString "a", .val (.list (a.map .int))), (Str.ofString "b", .val (.list (b.map .int))), (Str.ofString "hasattr", .glob (.builtin "hasattr"))] _ _
    refine Ex.cons (Ex1.ite (b := false) (T.tr (Tr.not (T.test (T.call (by tb_rel) (T.arg (T.nL (by tb_rel)) (T.arg Ev.str EvL.nil fun _ => rfl) fun _ => rfl) fn_hasL (fun _ => rfl) (fun _ => rfl)) (fun _ _ => rfl))) rfl) (fun h => nomatch h) (fun _ => ?_))
    refine Ex.nil (Ex.cons (T.ret (T.bin (T.nLI (by tb_rel)) (T.nLI (by tb_rel)) (o_addLI h)) ?_))
    rfl
end PartL16
section PartL18
local macro_rules | `(tactic| w_means) => `(tactic| first | with_reducible exact and_fn | with_reducible exact iseof_fn | (with_reducible apply mul_fn; tb_start) | (with_reducible apply mulS_fn; tb_start; tb_start) | (with_reducible apply concat_fn; tb_start) | (with_reducible apply rsh_fn; tb_start) | (with_reducible apply fdiv_fn; tb_start; tb_start))

def sepL (n : Nat) (way : Int) : List Nat := bif way % 2 == 0 then [62, 62] ++ List.replicate n 46 else [47, 47] ++ List.replicate (2 ^ n) 46
def rowL (dots : Nat) (odd : Bool) (n : Nat) (way : Int) : List Nat := (bif odd then List.replicate dots 46 else [40] ++ List.replicate dots 46 ++ [41]) ++ sepL n way
theorem p2n (n : Nat) : ((2 : Int) ^ ((n : Int)).toNat).toNat = 2 ^ n := by
  rw [Int.toNat_natCast, show (2 : Int) ^ n = ((2 ^ n : Nat) : Int) by simp, Int.toNat_natCast]
theorem p2m (n : Nat) : ((2 : Int) ^ n).toNat = 2 ^ n := by
  rw [show (2 : Int) ^ n = ((2 ^ n : Nat) : Int) by simp, Int.toNat_natCast]
theorem p2b {n : Nat} (h : n ≤ 3) : 0 < (2 : Int) ^ ((n : Int)).toNat ∧ (2 : Int) ^ ((n : Int)).toNat ≤ 8 := by
  rw [Int.toNat_natCast]
  match n, h with
  | 0, _ => decide
  | 1, _ => decide
  | 2, _ => decide
  | 3, _ => decide
theorem p1b {n : Nat} (h0 : 1 ≤ n) (h : n ≤ 3) : (2 : Int) ^ ((n : Int) - 1).toNat = (2 : Int) ^ (n - 1) ∧ 0 < (2 : Int) ^ (n - 1) ∧ (2 : Int) ^ (n - 1) ≤ 4 := by
  have e : ((n : Int) - 1).toNat = n - 1 := by omega
  rw [e]
  refine ⟨rfl, ?_⟩
  match n, h0, h with
  | 1, _, _ => decide
  | 2, _, _ => decide
  | 3, _, _ => decide

theorem row_fn {w : World} {dots n : Nat} {way : Int} {odd : Bool} (h1 : dots ≤ 100000) (h2 : n ≤ 3) :
    Fn w 1 (.ref 135) [.int dots, .bool odd, .int n, .int way] (.str (S (rowL dots odd n way))) := by
  refine fn_def (ps := [Str.ofString "dots", Str.ofString "odd", Str.ofString "shift", Str.ofString "way"]) (ls := [Str.ofString "row"]) (gs := []) (by k_is) (by k_is) (by k_is) ?_ (by decide) (by decide +kernel) (by decide +kernel) ?_ (by decide +kernel) (by decide +kernel) rfl ?_
  · exact fun s => len4 fun a b c d => BindsTo.of_eq rfl
  · intro g hg; cases hg
  · show Ex w 0 [(Str.ofString "dots", .val (.int dots)), (Str.ofString "odd", .val (.bool odd)), (Str.ofString "shift", .val (.int n)), (Str.ofString "way", .val (.int way)), (Str.ofString "row", .free)] _ _
    obtain ⟨q1, q2⟩ := p2b h2
    refine Ex.cons (T.assign (by ktr_rel) (by ke_reads) ?_ (fun _ => rfl))
    refine Ex.cons (T.ret (by ktr_rel) ?_)
    show PyData.str _ = _
    simp only [rowL, sepL, p2m, Int.toNat_natCast]

def sepD (n : Nat) (way : Int) : List Int := (bif way % 2 == 0 then [34] else [47]) ++ List.replicate ((bif way % 2 == 0 then n else 2 ^ n) / 3) 52 ++ List.replicate ((bif way % 2 == 0 then n else 2 ^ n) % 3) 23
def dueL (dots : Nat) (odd : Bool) (n : Nat) (way : Int) : List Int :=
  (bif odd then List.replicate (dots / 3) 52 ++ List.replicate (dots % 3) 23 else [7] ++ (List.replicate (dots / 3) 52 ++ List.replicate (dots % 3) 23) ++ [8]) ++ sepD n way

theorem due_fn {w : World} {dots n : Nat} {way : Int} {odd : Bool} (h1 : dots ≤ 700) (h2 : n ≤ 3) :
    Fn w 1 (.ref 142) [.int dots, .bool odd, .int n, .int way] (.list ((dueL dots odd n way).map .int)) := by
  refine fn_def (ps := [Str.ofString "dots", Str.ofString "odd", Str.ofString "shift", Str.ofString "way"]) (ls := [Str.ofString "behind", Str.ofString "kinds"]) (gs := []) (by k_is) (by k_is) (by k_is) ?_ (by decide) (by decide +kernel) (by decide +kernel) ?_ (by decide +kernel) (by decide +kernel) rfl ?_
  · exact fun s => len4 fun a b c d => BindsTo.of_eq rfl
  · intro g hg; cases hg
  · show Ex w 0 [(Str.ofString "dots", .val (.int dots)), (Str.ofString "odd", .val (.bool odd)), (Str.ofString "shift", .val (.int n)), (Str.ofString "way", .val (.int way)), (Str.ofString "behind", .free), (Str.ofString "kinds", .free)] _ _
    obtain ⟨q1, q2⟩ := p2b h2
    have e : (bif way % 2 == 0 then (n : Int) else 2 ^ ((n : Int)).toNat) = ((bif way % 2 == 0 then n else 2 ^ n : Nat) : Int) := by
      rw [Int.toNat_natCast]
      cases way % 2 == 0 <;> simp
    have hb : (bif way % 2 == 0 then n else 2 ^ n : Nat) ≤ 8 := by
      rw [Int.toNat_natCast] at q2
      have : (2 : Nat) ^ n ≤ 8 := by exact_mod_cast q2
      cases way % 2 == 0
      · exact this
      · show n ≤ 8; omega
    refine Ex.cons (T.assign (T.ev (by ktr_rel) (by rw [e])) (by ke_reads) ?_ (fun _ => rfl))
    generalize hB : (bif way % 2 == 0 then n else 2 ^ n : Nat) = B at hb ⊢
    refine Ex.cons (T.assign (by ktr_rel) (by ke_reads) ?_ (fun _ => rfl))
    refine Ex.cons (T.ret (by ktr_rel) ?_)
    show PyData.list _ = _
    have e1 : ((dots : Int) / 3).toNat = dots / 3 := by omega
    have e2 : ((dots : Int) % 3).toNat = dots % 3 := by omega
    have e3 : ((B : Int) / 3).toNat = B / 3 := by omega
    have e4 : ((B : Int) % 3).toNat = B % 3 := by omega
    simp only [dueL, sepD, hB, e1, e2, e3, e4, List.append_assoc]
    cases way % 2 == 0 <;> rfl
end PartL18
section PartL19
noncomputable abbrev EX (w : World) (x : Str) : Option (Option Value) := nsIn (MineHead.heapK w.params) 91 x
theorem ex_ok (w : World) : ∃ es n, (MineHead.heapK w.params).lookup 91 = some ⟨.type "dict", none, .dict es n, #[]⟩ ∧ KeysLit w.params es.toList := ⟨_, _, by k_is, by k_keys⟩
section
variable {w : World} {k : Nat} {ρ ρ' : List (Str × Sl)} {e t x y : Expr} {es : List Expr} {f f1 f2 g : Fl} {i j : Int} {p p2 pos : Pos} {v : Str} {l : List Nat} {ns : List Int}
theorem Tr.inD {r : Option Value} {z : Str} (h : Ev w k ρ x (.str z) f) (hm : Has v (.glob (.ref 91)) ρ) (hr : EX w z = some r) : Tr w k ρ (.Compare x [.In] [.Name v p] pos) r.isSome := by
  intro A c env s rm es' tb Q E q
  refine wpAny_isTrue_Compare1 (h rm es' tb fun v1 h' tk e1 b1 r1 => ?_) rfl
  refine name_of (s := { s with heap := h', toks := tk }) ((es'.keeps e1).vars _ _ hm.mem) ?_ (es'.dbg hm.mem)
  obtain ⟨u, rfl⟩ := r1.str_inv
  obtain ⟨en, n, hl, hk⟩ := ex_ok w
  refine wpAny_in_of (strKind_is _ w z u) (by decide) (mapOf_K (prog := prg) (es'.wd.X.keeps e1) hl hk) ?_
  rw [find_K hl hr]
  exact wpAny_truthy_bool (q _ _ e1 (Nat.le_succ_of_le b1))
theorem Ev.dItem {z : Str} {tok : Tok} (h : Ev w k ρ x (.str z) f) (hm : Has v (.glob (.ref 91)) ρ) (hr : EX w z = some (some (.int i tok))) (h0 : 0 < tok ∧ tok < 499) (hs : ∀ o i, subscripted x false o i = operate [o, i] (getItem o i)) :
    Ev w k ρ (.Subscript (.Name v p) x pos) (gI true i) .fr := by
  intro A c env s rm es' tb
  refine Ys.of tb fun Q E q => ?_
  refine Subscript_ (name_of (es'.vars _ _ hm.mem) ?_ (es'.dbg hm.mem))
  refine h rm es' tb fun v1 h' tk e1 b1 r1 => ?_
  obtain ⟨u, rfl⟩ := r1.str_inv
  obtain ⟨en, n, hl, hk⟩ := ex_ok w
  refine tail_any (T := "dict") (s := { s with heap := h', toks := tk }) ⟨_, es'.wd.X.keeps e1 _ _ hl, rfl⟩ slot_dict_getitem.lookup (wpAny_getItem_of (strKind_is _ w z u) (mapOf_K (prog := prg) (es'.wd.X.keeps e1) hl hk) (find_K hl hr) ?_) (hs _ _)
  exact q _ h' _ e1 (.gint i (by simpa [Gr] using h0))
theorem T.ifI' {q : Bool} (ht : Tr w k ρ t q) (h1 : Ev w k ρ x (.int i) f1) (h2 : Ev w k ρ y (.int j) f2) : Ev w k ρ (.IfExp t x y pos) (.int (bif q then i else j)) .fr := T.ifI ht h1 h2
theorem T.itemG {gg : Bool} (hv : Ev w k ρ x (.list (ns.map (gI gg))) f) (hi : Ev w k ρ y (.int i) g) (h0 : 0 ≤ i) (hn : i < ns.length) (hz : ns.length ≤ 16777216) (hs : ∀ o i, subscripted y false o i = operate [o, i] (getItem o i)) :
    Ev w k ρ (.Subscript x y pos) (.int (ns.getD i.toNat 0)) .fr := by
  have : i.toNat < ns.length := by omega
  have h := Ev.itemA (pos := pos) (d := gI gg (ns.getD i.toNat 0)) hv hi h0 (by omega) (by rw [List.getElem?_map, List.getD_eq_getElem?_getD, List.getElem?_eq_getElem this]; rfl) rfl hs
  exact h.plain
theorem all_g (gg : Bool) (ns : List Int) : (ns.map (gI gg)).all atom = true := by simp [atom]
theorem T.takeG {gg : Bool} {pp : Pos} (hv : Ev w k ρ x (.list (ns.map (gI gg))) f) (hi : Ev w k ρ y (.int i) g) (h0 : 0 ≤ i) (hz : ns.length ≤ 16777216) (ht : ∀ o r, letTemporaryGo x o r = pure ()) :
    Ev w k ρ (.Subscript x (.Slice none (some y) none pp) pos) (.list ((ns.take i.toNat).map (gI gg))) .fr := by
  rw [List.map_take]; exact Ev.sliceTo hv hi h0 (all_g gg ns) (by simpa using hz) ht
theorem T.dropG {gg : Bool} {pp : Pos} (hv : Ev w k ρ x (.list (ns.map (gI gg))) f) (hi : Ev w k ρ y (.int i) g) (h0 : 0 ≤ i) (hz : ns.length ≤ 16777216) (ht : ∀ o r, letTemporaryGo x o r = pure ()) :
    Ev w k ρ (.Subscript x (.Slice (some y) none none pp) pos) (.list ((ns.drop i.toNat).map (gI gg))) .fr := by
  rw [List.map_drop]; exact Ev.sliceFrom hv hi h0 (all_g gg ns) (by simpa using hz) ht
end

/-- a row and its kinds -/
inductive Kd (w : World) : List Nat → List Int → Prop
  | nil : Kd w [] []
  | step {r : List Nat} {o3 o2 : Option Value} {i : Int} {tok : Tok} {ks : List Int} (sz : Nat) : r ≠ [] → EX w (S (r.take 3)) = some o3 → EX w (S (r.take 2)) = some o2 → (bif o3.isSome then (3 : Int) else bif o2.isSome then 2 else 1) = sz →
      EX w (S (r.take sz)) = some (some (.int i tok)) → 0 < tok ∧ tok < 499 → Kd w (r.drop sz) ks → Kd w r (i :: ks)

theorem kinds_fn {w : World} {r : List Nat} {ks : List Int} (hk : Kd w r ks) (hz : r.length ≤ 1000000) : Fn w 1 (.ref 149) [.str (S r)] (.list (ks.map (gI true))) := by
  refine fn_def (ps := [Str.ofString "row"]) (ls := [Str.ofString "kinds", Str.ofString "size"]) (gs := [(Str.ofString "EXACT_TOKEN_TYPES", .ref 91)]) (by k_is) (by k_is) (by k_is) ?_ (by decide) (by decide +kernel) (by decide +kernel) ?_ (by decide +kernel) (by decide +kernel) rfl ?_
  · exact fun s => len1 fun a => BindsTo.of_eq rfl
  · intro g hg
    rw [List.mem_singleton.mp hg]
    exact ⟨rfl, .inl (by k_is)⟩
  · show Ex w 0 [(Str.ofString "row", .val (.str (S r))), (Str.ofString "kinds", .free), (Str.ofString "size", .free), (Str.ofString "EXACT_TOKEN_TYPES", .glob (.ref 91))] _ _
    refine Ex.cons (Ex1.assignOwn (ds := ([] : List Int).map (gI true)) .nil (by decide) (by ke_reads) ?_)
    refine Ex.cons (Ex1.while (fun n ρ => ∃ r' pre post sl, n = r'.length ∧ r'.length ≤ 1000000 ∧ Kd w r' post ∧ pre ++ post = ks ∧ pre.length + r'.length ≤ 1000000 ∧ (∀ v, sl ≠ .glob v) ∧
        ρ = [(Str.ofString "row", .val (.str (S r'))), (Str.ofString "kinds", .own (pre.map (gI true))), (Str.ofString "size", sl), (Str.ofString "EXACT_TOKEN_TYPES", .glob (.ref 91))])
      r.length ⟨r, [], ks, .free, rfl, hz, hk, rfl, by simpa using hz, (fun _ h => nomatch h), rfl⟩ ?_)
    rintro n ρi ⟨r', pre, post, sl, rfl, hz', hk', hpp, hpl, hsl, rfl⟩
    refine ⟨r' != [], T.tcmp (T.nS (by tb_rel)) (T.lit lit_empty) o_neS (by with_unfolding_all rfl), fun hne => ?_, fun hne => ?_⟩
    · cases hk' with
      | nil => cases hne
      | @step _ o3 o2 i tok ks' sz hr h3 h2 hsz hi ht hd =>
        have hsz1 : 1 ≤ sz := by
          cases q3 : o3.isSome <;> cases q2 : o2.isSome <;> simp [q3, q2] at hsz <;> omega
        have hsz3 : sz ≤ 3 := by
          cases q3 : o3.isSome <;> cases q2 : o2.isSome <;> simp [q3, q2] at hsz <;> omega
        have hlen : 0 < r'.length := List.length_pos_iff.mpr hr
        have hz16 : r'.length ≤ 16777216 := by omega
        refine Ex.cons (T.assign (d := .int sz) (T.ev (T.ifI (T.tr (Tr.inD (Ev.strTo (f := .fr) (g := .fr) (T.nS (by tb_rel)) Ev.int (by decide) hz16 (fun _ _ => rfl)) (by tb_rel) h3) rfl) (f1 := .fr) (f2 := .fr) Ev.int (T.ifI (Tr.inD (Ev.strTo (f := .fr) (g := .fr) (T.nS (by tb_rel)) Ev.int (by decide) hz16 (fun _ _ => rfl)) (by tb_rel) h2) (f1 := .fr) (f2 := .fr) Ev.int Ev.int)) (by rw [hsz]))
          (.tail (.tail (.head hsl))) ?_ (fun _ => rfl))
        have hd' : gI true i = gI true i := rfl
        refine Ex.cons (Ex1.append (d := gI true i) (Has.mem (by tb_rel)) (Ev.dItem (tok := tok) (Ev.strTo (f := .fr) (g := .fr) (T.nS (by tb_rel)) (T.nI (by tb_rel)) (by omega) hz16 (fun _ _ => rfl)) (by tb_rel) (by rw [Int.toNat_natCast]; exact hi) ht (fun _ _ => rfl)).toCl (by simp; omega)
          (.tail (.head fun _ h => nomatch h)) ?_ (by decide) (fun _ => rfl))
        refine Ex.cons (T.assign (Ev.strFrom (f := .fr) (g := .fr) (T.nS (by tb_rel)) (T.nI (by tb_rel)) (by omega) hz16 (fun _ _ => rfl)) (by ke_reads) ?_ (fun _ => rfl))
        refine Ex.nil ⟨(r'.drop sz).length, by rw [List.length_drop]; omega, r'.drop sz, pre ++ [i], ks', .val (.int sz), rfl, by rw [List.length_drop]; omega, hd, by rw [List.append_assoc]; exact hpp, by rw [List.length_append, List.length_drop, List.length_singleton]; omega, (fun _ h => nomatch h), ?_⟩
        rw [Int.toNat_natCast, List.map_append]; rfl
    · have hr : r' = [] := by simpa using hne
      subst hr
      cases hk' with
      | step _ hr => exact absurd rfl hr
      | nil =>
        rw [List.append_nil] at hpp
        subst hpp
        refine Ex.cons (T.retM (Ev.nameM (Has.mem (by tb_rel)) (all_g true pre)) ?_)
        rfl
end PartL19
section PartL20
theorem cnt_le (j : Int) (l : List Int) : 0 ≤ cnt j l ∧ cnt j l ≤ l.length := by
  unfold cnt
  have := List.countP_le_length (p := (· == j)) (l := l)
  omega
local macro_rules | `(tactic| w_means) => `(tactic| first | with_reducible exact and_fn | with_reducible exact iseof_fn | (with_reducible apply mul_fn; tb_start) | (with_reducible apply mulS_fn; tb_start; tb_start) | (with_reducible apply concat_fn; tb_start) | (with_reducible apply rsh_fn; tb_start) | (with_reducible apply fdiv_fn; tb_start; tb_start))

theorem next_fn {w : World} {pre post : List Int} {op d b : Int} (hpre : ∀ x ∈ pre, x ≠ 34 ∧ x ≠ 47) (hop : op = 34 ∨ op = 47) (hs1 : ∀ n ∈ pre, smallInt n = true) (hs2 : ∀ n ∈ post, smallInt n = true) (hz : pre.length + post.length ≤ 100000)
    (hd : 3 * cnt 52 pre + cnt 23 pre = d) (hb : 3 * cnt 52 post + cnt 23 post = b) (b0 : 0 < b) (b1 : b ≤ 8) :
    Fn w 2 (.ref 156) [.list ((pre ++ op :: post).map (gI true))] (.list ((bif op == 34 then [d / 2 ^ b.toNat, -d / 2 ^ b.toNat] else [d / b, -d / b]).map .int)) := by
  refine fn_def (ps := [Str.ofString "kinds"]) (ls := [Str.ofString "place", Str.ofString "left", Str.ofString "right"]) (gs := [(Str.ofString "countOf", .ref 73), (Str.ofString "rshift", .ref 59), (Str.ofString "floordiv", .ref 45)]) (by k_is) (by k_is) (by k_is) ?_ (by decide) (by decide +kernel) (by decide +kernel) ?_ (by decide +kernel) (by decide +kernel) rfl ?_
  · exact fun s => len1 fun a => BindsTo.of_eq rfl
  · intro g hg
    rcases List.mem_cons.mp hg with rfl | hg
    · exact ⟨rfl, .inl (by k_is)⟩
    rcases List.mem_cons.mp hg with rfl | hg
    · exact ⟨rfl, .inl (by k_is)⟩
    rw [List.mem_singleton.mp hg]
    exact ⟨rfl, .inl (by k_is)⟩
  · show Ex w 1 [(Str.ofString "kinds", .val (.list ((pre ++ op :: post).map (gI true)))), (Str.ofString "place", .free), (Str.ofString "left", .free), (Str.ofString "right", .free), (Str.ofString "countOf", .glob (.ref 73)), (Str.ofString "rshift", .glob (.ref 59)), (Str.ofString "floordiv", .glob (.ref 45))] _ _
    have hlen : (pre ++ op :: post).length = pre.length + post.length + 1 := by simp; omega
    have hz16 : (pre ++ op :: post).length ≤ 16777216 := by omega
    have e1 : (pre ++ op :: post).take ((pre.length : Int)).toNat = pre := by rw [Int.toNat_natCast, List.take_left']; rfl
    have e2 : (pre ++ op :: post).drop ((pre.length : Int) + 1).toNat = post := by
      rw [show ((pre.length : Int) + 1).toNat = pre.length + 1 by omega, ← List.drop_drop, List.drop_left']; rfl
      rfl
    have e3 : (pre ++ op :: post).getD ((pre.length : Int)).toNat 0 = op := by
      rw [Int.toNat_natCast, List.getD_eq_getElem?_getD, List.getElem?_append_right (Nat.le_refl _), Nat.sub_self]; rfl
    obtain ⟨c1, c2⟩ := cnt_le 52 pre
    obtain ⟨c3, c4⟩ := cnt_le 52 post
    refine Ex.cons (T.assign (d := .int 0) (by ktr_rel) (by ke_reads) ?_ (fun _ => rfl))
    refine Ex.cons (Ex1.while (fun n ρ => ∃ p : Nat, p ≤ pre.length ∧ n = pre.length - p ∧
        ρ = [(Str.ofString "kinds", .val (.list ((pre ++ op :: post).map (gI true)))), (Str.ofString "place", .val (.int p)), (Str.ofString "left", .free), (Str.ofString "right", .free), (Str.ofString "countOf", .glob (.ref 73)), (Str.ofString "rshift", .glob (.ref 59)), (Str.ofString "floordiv", .glob (.ref 45))])
      pre.length ⟨0, Nat.zero_le _, rfl, rfl⟩ ?_)
    rintro n ρi ⟨p, hp, rfl, rfl⟩
    refine ⟨_, Tr.notInTup (ns := [34, 47]) (T.itemG (f := .cl) (g := .fr) (T.nL (by tb_rel)) (by ktr_rel) (by omega) (by omega) hz16 (fun _ _ => rfl)) (T.arg Ev.int (T.arg Ev.int EvL.nil fun _ => rfl) fun _ => rfl) (by decide), fun hne => ?_, fun hne => ?_⟩
    · have hlt : p < pre.length := by
        rcases Nat.lt_or_ge p pre.length with q | q
        · exact q
        · exfalso
          obtain rfl : p = pre.length := by omega
          rw [e3] at hne
          rcases hop with rfl | rfl <;> simp at hne
      refine Ex.cons (T.aug (d := .int ((p + 1 : Nat) : Int)) (by tb_rel) Ev.int (by have := op_iadd (w := w) (k := 1) (i := (p : Int)) (j := 1); simpa using this) (by ke_reads) ?_)
      exact Ex.nil ⟨pre.length - (p + 1), by omega, p + 1, hlt, rfl, rfl⟩
    · obtain rfl : p = pre.length := by
        rcases Nat.lt_or_ge p pre.length with q | q
        · exfalso
          have hg : (pre ++ op :: post).getD ((p : Int)).toNat 0 = pre[p] := by
            rw [Int.toNat_natCast, List.getD_eq_getElem?_getD, List.getElem?_append_left q, List.getElem?_eq_getElem q]; rfl
          rw [hg] at hne
          have := hpre _ (List.getElem_mem q)
          simp at hne
          rcases Decidable.em (34 = pre[p]) with h | h
          · exact this.1 h.symm
          · exact this.2 (hne h).symm
        · omega
      have takeE : ∀ {ρ : List (Str × Sl)} {x y : Expr} {p1 p2 : Pos}, Ev w 1 ρ x (.list ((pre ++ op :: post).map (gI true))) .cl → Ev w 1 ρ y (.int pre.length) .fr → (∀ o r, letTemporaryGo x o r = pure ()) → Ev w 1 ρ (.Subscript x (.Slice none (some y) none p1) p2) (.list (pre.map (gI true))) .fr :=
        fun hx hy ht => T.ev (T.takeG hx hy (by omega) hz16 ht) (by rw [e1])
      have dropE : ∀ {ρ : List (Str × Sl)} {x y : Expr} {p1 p2 : Pos}, Ev w 1 ρ x (.list ((pre ++ op :: post).map (gI true))) .cl → Ev w 1 ρ y (.int (pre.length + 1)) .fr → (∀ o r, letTemporaryGo x o r = pure ()) → Ev w 1 ρ (.Subscript x (.Slice (some y) none none p1) p2) (.list (post.map (gI true))) .fr :=
        fun hx hy ht => T.ev (T.dropG hx hy (by omega) hz16 ht) (by rw [e2])
      refine Ex.cons (T.assign (d := .int d) (T.ev (T.bin (T.bin Ev.int (T.call (by tb_rel) (T.arg (takeE (T.nL (by tb_rel)) (by ktr_rel) (fun _ _ => rfl)) (T.arg Ev.intG EvL.nil fun _ => rfl) fun _ => rfl) (count_fn hs1) (fun _ => rfl) (fun _ => rfl)) (op_mul (by omega)))
        (T.call (by tb_rel) (T.arg (takeE (T.nL (by tb_rel)) (by ktr_rel) (fun _ _ => rfl)) (T.arg Ev.intG EvL.nil fun _ => rfl) fun _ => rfl) (count_fn hs1) (fun _ => rfl) (fun _ => rfl)) op_add) (by rw [hd])) (by ke_reads) ?_ (fun _ => rfl))
      refine Ex.cons (T.assign (d := .int b) (T.ev (T.bin (T.bin Ev.int (T.call (by tb_rel) (T.arg (dropE (T.nL (by tb_rel)) (by ktr_rel) (fun _ _ => rfl)) (T.arg Ev.intG EvL.nil fun _ => rfl) fun _ => rfl) (count_fn hs2) (fun _ => rfl) (fun _ => rfl)) (op_mul (by omega)))
        (T.call (by tb_rel) (T.arg (dropE (T.nL (by tb_rel)) (by ktr_rel) (fun _ _ => rfl)) (T.arg Ev.intG EvL.nil fun _ => rfl) fun _ => rfl) (count_fn hs2) (fun _ => rfl) (fun _ => rfl)) op_add) (by rw [hb])) (by ke_reads) ?_ (fun _ => rfl))
      refine Ex.cons (Ex1.ite (b := op == 34) (T.tr (T.tcmp (T.itemG (f := .cl) (g := .fr) (T.nL (by tb_rel)) (by ktr_rel) (by omega) (by omega) hz16 (fun _ _ => rfl)) Ev.int op_eqI (by with_unfolding_all rfl)) (by rw [e3])) (fun h => ?_) (fun h => ?_))
      · refine Ex.cons (T.ret (Ev.list (T.argF (by ktr_rel) (T.argF (by ktr_rel) EvL.nil fun _ => rfl) fun _ => rfl) (by simp)) ?_)
        show PyData.list _ = _
        rw [h]; rfl
      · refine Ex.nil (Ex.cons (T.ret (Ev.list (T.argF (by ktr_rel) (T.argF (by ktr_rel) EvL.nil fun _ => rfl) fun _ => rfl) (by simp)) ?_))
        show PyData.list _ = _
        rw [h]; rfl
end PartL20
section PartL21
local macro_rules | `(tactic| w_means) => `(tactic| first | with_reducible exact and_fn | with_reducible exact iseof_fn | (with_reducible apply mul_fn; tb_start) | (with_reducible apply mulS_fn; tb_start; tb_start) | (with_reducible apply concat_fn; tb_start) | (with_reducible apply rsh_fn; tb_start) | (with_reducible apply fdiv_fn; tb_start; tb_start))

/-- the dots that a number is told by -/
def dotN (n f m : Nat) : Nat := bif m % 2 == 1 then 2 ^ (n - 1) * f * m else 2 ^ (n - 1) * m
theorem bit_even : ∀ m : Nat, m < 256 → ∀ n : Nat, n < 3 → (Builtin.bitAnd ((2 ^ n * m : Nat) : Int) ((2 ^ n : Nat) : Int) == 0) = (m % 2 == 0) := by decide +kernel

theorem typed_fn {w : World} {n f m : Nat} {way : Int} (h1 : 1 ≤ n) (h2 : n ≤ 3) (f1 : 1 ≤ f) (f2 : f ≤ 15) (m1 : 1 ≤ m) (m2 : m ≤ 255) :
    Fn w 2 (.ref 128) [.int m, .int f, .int n, .int way] (.str (S (rowL (dotN n f m) (m % 2 == 1) n way))) := by
  refine fn_def (ps := [Str.ofString "number", Str.ofString "factor", Str.ofString "shift", Str.ofString "way"]) (ls := [Str.ofString "scale", Str.ofString "even", Str.ofString "row"])
    (gs := [(Str.ofString "ISEOF", .ref 100), (Str.ofString "and_", .ref 38), (Str.ofString "mul", .ref 52), (Str.ofString "concat", .ref 66)]) (by k_is) (by k_is) (by k_is) ?_ (by decide) (by decide +kernel) (by decide +kernel) ?_ (by decide +kernel) (by decide +kernel) rfl ?_
  · exact fun s => len4 fun a b c d => BindsTo.of_eq rfl
  · intro g hg
    rcases List.mem_cons.mp hg with rfl | hg
    · exact ⟨rfl, .inl (by k_is)⟩
    rcases List.mem_cons.mp hg with rfl | hg
    · exact ⟨rfl, .inl (by k_is)⟩
    rcases List.mem_cons.mp hg with rfl | hg
    · exact ⟨rfl, .inl (by k_is)⟩
    rw [List.mem_singleton.mp hg]
    exact ⟨rfl, .inl (by k_is)⟩
  · show Ex w 1 [(Str.ofString "number", .val (.int m)), (Str.ofString "factor", .val (.int f)), (Str.ofString "shift", .val (.int n)), (Str.ofString "way", .val (.int way)), (Str.ofString "scale", .free), (Str.ofString "even", .free), (Str.ofString "row", .free), (Str.ofString "ISEOF", .glob (.ref 100)), (Str.ofString "and_", .glob (.ref 38)), (Str.ofString "mul", .glob (.ref 52)), (Str.ofString "concat", .glob (.ref 66))] _ _
    obtain ⟨q1, q2⟩ := p2b h2
    obtain ⟨P, hP, hPe⟩ : ∃ P : Nat, P = 2 ^ (n - 1) ∧ (2 : Int) ^ ((n : Int) - 1).toNat = P := by
      refine ⟨2 ^ (n - 1), rfl, ?_⟩
      rw [show ((n : Int) - 1).toNat = n - 1 by omega]; simp
    have hP1 : 1 ≤ P ∧ P ≤ 4 := by
      obtain ⟨a, b, c⟩ := p1b h1 h2
      rw [a] at hPe
      omega
    have bPm : P * m ≤ 4 * 255 := Nat.mul_le_mul hP1.2 m2
    have bPf : P * f ≤ 4 * 15 := Nat.mul_le_mul hP1.2 f2
    have bPfm : P * f * m ≤ 4 * 15 * 255 := Nat.mul_le_mul bPf m2
    have hev : (Builtin.bitAnd ((P * m : Nat) : Int) (P : Int) == 0) = (m % 2 == 0) := by
      rw [hP]; exact bit_even m (by omega) (n - 1) (by omega)
    refine Ex.cons (T.assign (d := .int P) (T.ev (by ktr_rel) (by rw [hPe])) (by ke_reads) ?_ (fun _ => rfl))
    have m63 : ((m : Nat) : Int).natAbs < 2 ^ 63 := by omega
    have mulE : ∀ {ρ : List (Str × Sl)} {x y : Expr} {es : List Expr} {a b : Nat}, True := trivial
    have cm : (P : Int) * (m : Int) = ((P * m : Nat) : Int) := by simp
    have cf : (P : Int) * (f : Int) = ((P * f : Nat) : Int) := by simp
    have cfm : ((P * f : Nat) : Int) * (m : Int) = ((P * f * m : Nat) : Int) := by simp
    refine Ex.cons (T.assign (d := .bool (m % 2 == 0)) (T.ev (by ktr_rel) (by rw [cm, hev])) (by ke_reads) ?_ (fun _ => rfl))
    refine Ex.cons (Ex1.ite (b := false) (T.tr (by kst_p) ?_) (fun h => nomatch h) (fun _ => ?_))
    · have a1 : ((m : Int) % 2 == 0) = (m % 2 == 0) := by
        rw [Bool.eq_iff_iff, beq_iff_eq, beq_iff_eq]; omega
      have a2 : ((m : Int) == 0) = false := by rw [beq_eq_false_iff_ne]; omega
      have a3 : (-(m : Int) == 0) = false := by rw [beq_eq_false_iff_ne]; omega
      rw [a1, a2, a3]
      cases (m % 2 == 0) <;> rfl
    refine Ex.nil ?_
    refine Ex.cons (Ex1.ite (b := m % 2 == 0) (by kst_p) (fun h => ?_) (fun h => ?_))
    · have hodd : (m % 2 == 1) = false := by rw [beq_eq_false_iff_ne]; rw [beq_iff_eq] at h; omega
      have b1 : (0 : Int) ≤ (P : Int) * (m : Int) := by rw [cm]; omega
      have b2 : (P : Int) * (m : Int) ≤ 1048576 := by rw [cm]; omega
      have b3 : (List.replicate ((P : Int) * (m : Int)).toNat 46).length ≤ 100000 := by rw [List.length_replicate, cm]; omega
      refine Ex.cons (T.assign (d := .str (S ([40] ++ List.replicate (P * m) 46 ++ [41]))) (T.ev (by ktr_rel) (by rw [cm, Int.toNat_natCast])) (by ke_reads) ?_ (fun _ => rfl))
      refine Ex.nil (Ex.cons (T.ret (by ktr_rel) ?_))
      show PyData.str _ = _
      simp only [rowL, sepL, dotN, hodd, cond_false, p2m, Int.toNat_natCast, hP]
    · have hodd : (m % 2 == 1) = true := by rw [beq_iff_eq]; rw [beq_eq_false_iff_ne] at h; omega
      have f63 : ((f : Nat) : Int).natAbs < 2 ^ 63 := by omega
      have b1 : (0 : Int) ≤ (P : Int) * (f : Int) * (m : Int) := by rw [cf, cfm]; omega
      have b2 : (P : Int) * (f : Int) * (m : Int) ≤ 1048576 := by rw [cf, cfm]; omega
      refine Ex.cons (T.assign (d := .str (S (List.replicate (P * f * m) 46))) (T.ev (by ktr_rel) (by rw [cf, cfm, Int.toNat_natCast])) (by ke_reads) ?_ (fun _ => rfl))
      refine Ex.nil (Ex.cons (T.ret (by ktr_rel) ?_))
      show PyData.str _ = _
      simp only [rowL, sepL, dotN, hodd, cond_true, p2m, Int.toNat_natCast, hP]
end PartL21
section PartL22
section
variable (w : World)
theorem ex1 : EX w (S [40, 46, 46]) = some none := by kernel_rfl
theorem ex2 : EX w (S [40, 46, 41]) = some none := by kernel_rfl
theorem ex3 : EX w (S [40, 46]) = some none := by kernel_rfl
theorem ex4 : EX w (S [40]) = some (some (.int 7 408)) := by kernel_rfl
theorem ex5 : EX w (S [46, 46, 46]) = some (some (.int 52 498)) := by kernel_rfl
theorem ex6 : EX w (S [46, 46, 41]) = some none := by kernel_rfl
theorem ex7 : EX w (S [46, 46, 62]) = some none := by kernel_rfl
theorem ex8 : EX w (S [46, 46, 47]) = some none := by kernel_rfl
theorem ex9 : EX w (S [46, 46]) = some none := by kernel_rfl
theorem ex10 : EX w (S [46, 41, 62]) = some none := by kernel_rfl
theorem ex11 : EX w (S [46, 41, 47]) = some none := by kernel_rfl
theorem ex12 : EX w (S [46, 62, 62]) = some none := by kernel_rfl
theorem ex13 : EX w (S [46, 47, 47]) = some none := by kernel_rfl
theorem ex14 : EX w (S [46, 41]) = some none := by kernel_rfl
theorem ex15 : EX w (S [46, 62]) = some none := by kernel_rfl
theorem ex16 : EX w (S [46, 47]) = some none := by kernel_rfl
theorem ex17 : EX w (S [46]) = some (some (.int 23 440)) := by kernel_rfl
theorem ex18 : EX w (S [41, 62, 62]) = some none := by kernel_rfl
theorem ex19 : EX w (S [41, 47, 47]) = some none := by kernel_rfl
theorem ex20 : EX w (S [41, 62]) = some none := by kernel_rfl
theorem ex21 : EX w (S [41, 47]) = some none := by kernel_rfl
theorem ex22 : EX w (S [41]) = some (some (.int 8 410)) := by kernel_rfl
theorem ex23 : EX w (S [62, 62, 46]) = some none := by kernel_rfl
theorem ex24 : EX w (S [62, 62]) = some (some (.int 34 462)) := by kernel_rfl
theorem ex25 : EX w (S [47, 47, 46]) = some none := by kernel_rfl
theorem ex26 : EX w (S [47, 47]) = some (some (.int 47 488)) := by kernel_rfl
end
/-- what may stand behind dots -/
def Tl (t : List Nat) : Prop := t = [] ∨ (∃ r, t = 41 :: 62 :: r) ∨ (∃ r, t = 41 :: 47 :: r) ∨ (∃ r, t = 62 :: 62 :: r) ∨ (∃ r, t = 47 :: 47 :: r)
theorem kd_dots {w : World} {t : List Nat} {ks : List Int} (ht : Tl t) (hk : Kd w t ks) : ∀ d : Nat, Kd w (List.replicate d 46 ++ t) (List.replicate (d / 3) 52 ++ (List.replicate (d % 3) 23 ++ ks))
  | 0 => by simpa using hk
  | 1 => by
    rcases ht with rfl | ⟨r, rfl⟩ | ⟨r, rfl⟩ | ⟨r, rfl⟩ | ⟨r, rfl⟩
    · exact .step 3 (by simp) (ex17 w) (ex17 w) rfl (ex17 w) (by decide) hk
    · exact .step 1 (by simp) (ex10 w) (ex14 w) rfl (ex17 w) (by decide) hk
    · exact .step 1 (by simp) (ex11 w) (ex14 w) rfl (ex17 w) (by decide) hk
    · exact .step 1 (by simp) (ex12 w) (ex15 w) rfl (ex17 w) (by decide) hk
    · exact .step 1 (by simp) (ex13 w) (ex16 w) rfl (ex17 w) (by decide) hk
  | 2 => by
    have h1 := kd_dots ht hk 1
    rcases ht with rfl | ⟨r, rfl⟩ | ⟨r, rfl⟩ | ⟨r, rfl⟩ | ⟨r, rfl⟩
    · exact .step 1 (by simp) (ex9 w) (ex9 w) rfl (ex17 w) (by decide) h1
    · exact .step 1 (by simp) (ex6 w) (ex9 w) rfl (ex17 w) (by decide) h1
    · exact .step 1 (by simp) (ex6 w) (ex9 w) rfl (ex17 w) (by decide) h1
    · exact .step 1 (by simp) (ex7 w) (ex9 w) rfl (ex17 w) (by decide) h1
    · exact .step 1 (by simp) (ex8 w) (ex9 w) rfl (ex17 w) (by decide) h1
  | d + 3 => by
    have h1 := kd_dots ht hk d
    rw [show (d + 3) / 3 = d / 3 + 1 by omega, show (d + 3) % 3 = d % 3 by omega]
    exact .step 3 (by simp [List.replicate_succ]) (ex5 w) (ex9 w) rfl (ex5 w) (by decide) h1

theorem kd_sep {w : World} {n : Nat} {way : Int} (h1 : 1 ≤ n) : Kd w (sepL n way) (sepD n way) ∧ ((∃ r, sepL n way = 62 :: 62 :: r) ∨ (∃ r, sepL n way = 47 :: 47 :: r)) := by
  unfold sepL sepD
  cases hw : way % 2 == 0
  · simp only [cond_false]
    obtain ⟨m, hm⟩ : ∃ m, 2 ^ n = m + 1 := ⟨2 ^ n - 1, by have := Nat.one_le_two_pow (n := n); omega⟩
    have h := kd_dots (w := w) (t := []) (.inl rfl) .nil (2 ^ n)
    simp only [List.append_nil] at h
    refine ⟨?_, .inr ⟨_, rfl⟩⟩
    rw [hm] at h ⊢
    exact .step 2 (by simp) (ex25 w) (ex26 w) rfl (ex26 w) (by decide) h
  · simp only [cond_true]
    obtain ⟨m, rfl⟩ : ∃ m, n = m + 1 := ⟨n - 1, by omega⟩
    have h := kd_dots (w := w) (t := []) (.inl rfl) .nil (m + 1)
    simp only [List.append_nil] at h
    refine ⟨?_, .inl ⟨_, rfl⟩⟩
    exact .step 2 (by simp) (ex23 w) (ex24 w) rfl (ex24 w) (by decide) h

theorem kd_row {w : World} {d n : Nat} {odd : Bool} {way : Int} (h1 : 1 ≤ n) (hd : 1 ≤ d) : Kd w (rowL d odd n way) (dueL d odd n way) := by
  obtain ⟨k1, sh⟩ := kd_sep (w := w) (way := way) h1
  unfold rowL dueL
  cases odd
  · simp only [cond_false]
    have k2 : Kd w (41 :: sepL n way) (8 :: sepD n way) := by
      rcases sh with ⟨r, e⟩ | ⟨r, e⟩
      · rw [e] at k1 ⊢
        exact .step 1 (by simp) (ex18 w) (ex20 w) rfl (ex22 w) (by decide) k1
      · rw [e] at k1 ⊢
        exact .step 1 (by simp) (ex19 w) (ex21 w) rfl (ex22 w) (by decide) k1
    have k3 := kd_dots (w := w) (t := 41 :: sepL n way) (ks := 8 :: sepD n way) (by rcases sh with ⟨r, e⟩ | ⟨r, e⟩ <;> rw [e]; exact .inr (.inl ⟨_, rfl⟩); exact .inr (.inr (.inl ⟨_, rfl⟩))) k2 d
    have e1 : [40] ++ List.replicate d 46 ++ [41] ++ sepL n way = 40 :: (List.replicate d 46 ++ 41 :: sepL n way) := by simp
    have e2 : [7] ++ (List.replicate (d / 3) 52 ++ List.replicate (d % 3) 23) ++ [8] ++ sepD n way = (7 : Int) :: (List.replicate (d / 3) 52 ++ (List.replicate (d % 3) 23 ++ 8 :: sepD n way)) := by simp
    rw [e1, e2]
    match d, hd with
    | 1, _ => exact .step 1 (by simp) (ex2 w) (ex3 w) rfl (ex4 w) (by decide) k3
    | d + 2, _ => exact .step 1 (by simp) (ex1 w) (ex3 w) rfl (ex4 w) (by decide) k3
  · simp only [cond_true]
    have k3 := kd_dots (w := w) (t := sepL n way) (ks := sepD n way) (by rcases sh with e | e; exact .inr (.inr (.inr (.inl e))); exact .inr (.inr (.inr (.inr e)))) k1 d
    rw [List.append_assoc]
    exact k3

/-- the kinds' parts -/
def preD (d : Nat) (odd : Bool) : List Int := bif odd then List.replicate (d / 3) 52 ++ List.replicate (d % 3) 23 else [7] ++ (List.replicate (d / 3) 52 ++ List.replicate (d % 3) 23) ++ [8]
def behN (n : Nat) (way : Int) : Nat := bif way % 2 == 0 then n else 2 ^ n
def postD (n : Nat) (way : Int) : List Int := List.replicate (behN n way / 3) 52 ++ List.replicate (behN n way % 3) 23
theorem due_parts (d n : Nat) (odd : Bool) (way : Int) : dueL d odd n way = preD d odd ++ (bif way % 2 == 0 then 34 else 47) :: postD n way := by
  unfold dueL preD postD sepD behN
  cases way % 2 == 0 <;> simp
theorem cnt_app (j : Int) (a b : List Int) : cnt j (a ++ b) = cnt j a + cnt j b := by unfold cnt; rw [List.countP_append]; omega
theorem cnt_rep (j c : Int) (n : Nat) : cnt j (List.replicate n c) = bif c == j then n else 0 := by
  unfold cnt
  rw [List.countP_replicate]
  cases c == j <;> simp
theorem cnt_dots (d : Nat) : 3 * cnt 52 (List.replicate (d / 3) 52 ++ List.replicate (d % 3) 23) + cnt 23 (List.replicate (d / 3) 52 ++ List.replicate (d % 3) 23) = d := by
  rw [cnt_app, cnt_app, cnt_rep, cnt_rep, cnt_rep, cnt_rep]
  show 3 * (((d / 3 : Nat) : Int) + 0) + (0 + ((d % 3 : Nat) : Int)) = d
  omega
theorem cnt_pre (d : Nat) (odd : Bool) : 3 * cnt 52 (preD d odd) + cnt 23 (preD d odd) = d := by
  have h := cnt_dots d
  unfold preD
  cases odd
  · simp only [cond_false]
    rw [cnt_app, cnt_app, cnt_app 23, cnt_app 23]
    have a1 : cnt 52 [7] = 0 := rfl
    have a2 : cnt 52 [8] = 0 := rfl
    have a3 : cnt 23 [7] = 0 := rfl
    have a4 : cnt 23 [8] = 0 := rfl
    omega
  · exact h
theorem cnt_post (n : Nat) (way : Int) : 3 * cnt 52 (postD n way) + cnt 23 (postD n way) = behN n way := cnt_dots _
theorem mem_pre {d : Nat} {odd : Bool} {x : Int} (h : x ∈ preD d odd) : x = 52 ∨ x = 23 ∨ x = 7 ∨ x = 8 := by
  unfold preD at h
  cases odd
  · simp only [cond_false, List.mem_append, List.mem_singleton, List.mem_replicate] at h
    rcases h with (h | h | h) | h
    · exact .inr (.inr (.inl h))
    · exact .inl h.2
    · exact .inr (.inl h.2)
    · exact .inr (.inr (.inr h))
  · simp only [cond_true, List.mem_append, List.mem_replicate] at h
    rcases h with h | h
    · exact .inl h.2
    · exact .inr (.inl h.2)
theorem mem_post {n : Nat} {way : Int} {x : Int} (h : x ∈ postD n way) : x = 52 ∨ x = 23 := by
  unfold postD at h
  simp only [List.mem_append, List.mem_replicate] at h
  rcases h with h | h
  · exact .inl h.2
  · exact .inr h.2
theorem len_pre {d : Nat} {odd : Bool} (h : d ≤ 700) : (preD d odd).length ≤ 705 := by
  unfold preD
  cases odd <;> simp <;> omega
theorem behN_b {n : Nat} {way : Int} (h1 : 1 ≤ n) (h2 : n ≤ 3) : 1 ≤ behN n way ∧ behN n way ≤ 8 := by
  unfold behN
  match n, h1, h2 with
  | 1, _, _ => cases way % 2 == 0 <;> decide
  | 2, _, _ => cases way % 2 == 0 <;> decide
  | 3, _, _ => cases way % 2 == 0 <;> decide
/-- both ways of the shift tell the same -/
theorem both_eq {d n : Nat} {way : Int} (h1 : 1 ≤ n) (h2 : n ≤ 3) (x : Int) :
    (bif (bif way % 2 == 0 then (34 : Int) else 47) == 34 then x / 2 ^ ((behN n way : Nat) : Int).toNat else x / (behN n way : Nat)) = x / 2 ^ n := by
  unfold behN
  cases way % 2 == 0
  · show x / ((2 ^ n : Nat) : Int) = _
    simp
  · show x / 2 ^ ((n : Nat) : Int).toNat = _
    rw [Int.toNat_natCast]

theorem next_row {w : World} {d n : Nat} {odd : Bool} {way : Int} (h1 : 1 ≤ n) (h2 : n ≤ 3) (hd : d ≤ 700) :
    Fn w 2 (.ref 156) [.list ((dueL d odd n way).map (gI true))] (.list (([(d : Int) / 2 ^ n, -(d : Int) / 2 ^ n] : List Int).map .int)) := by
  rw [due_parts]
  obtain ⟨b1, b2⟩ := behN_b (way := way) h1 h2
  have h := next_fn (w := w) (pre := preD d odd) (post := postD n way) (op := bif way % 2 == 0 then 34 else 47) (d := d) (b := behN n way)
    (fun x hx => by rcases mem_pre hx with rfl | rfl | rfl | rfl <;> decide) (by cases way % 2 == 0; exact .inr rfl; exact .inl rfl)
    (fun x hx => by rcases mem_pre hx with rfl | rfl | rfl | rfl <;> decide) (fun x hx => by rcases mem_post hx with rfl | rfl <;> decide)
    (by
      have a1 := len_pre (odd := odd) hd
      have a2 : (postD n way).length ≤ 8 := by
        unfold postD
        simp
        omega
      omega) (cnt_pre d odd) (cnt_post n way) (by omega) (by omega)
  have e1 := both_eq (way := way) (d := d) h1 h2 (d : Int)
  have e2 := both_eq (way := way) (d := d) h1 h2 (-(d : Int))
  have : (bif (bif way % 2 == 0 then (34 : Int) else 47) == 34 then [(d : Int) / 2 ^ ((behN n way : Nat) : Int).toNat, -(d : Int) / 2 ^ ((behN n way : Nat) : Int).toNat] else [(d : Int) / (behN n way : Nat), -(d : Int) / (behN n way : Nat)]) = [(d : Int) / 2 ^ n, -(d : Int) / 2 ^ n] := by
    rw [← e1, ← e2]
    cases (bif way % 2 == 0 then (34 : Int) else 47) == 34 <;> rfl
  rw [this] at h
  exact h
end PartL22
section PartR1
open PySem.Builtin.Re PySem.Sre

theorem runFor_done {m : M} (h : m.outcome.isSome = true) : ∀ n, m.runFor n = m
  | 0 => rfl
  | n + 1 => by unfold M.runFor; rw [if_pos h]
theorem runFor_add (a b : Nat) (m : M) : m.runFor (a + b) = (m.runFor a).runFor b := by
  induction a generalizing m with
  | zero => rw [Nat.zero_add]; rfl
  | succ a ih =>
    rw [Nat.add_right_comm]
    cases h : m.outcome.isSome with
    | true => rw [runFor_done h, runFor_done h, runFor_done h]
    | false =>
      show (if m.outcome.isSome then m else M.runFor (a + b) m.step) = (if m.outcome.isSome then m else M.runFor a m.step).runFor b
      rw [h]
      exact ih m.step
theorem runFor_step {m : M} (h : m.outcome = none) (n : Nat) : m.runFor (n + 1) = m.step.runFor n := by
  show (if m.outcome.isSome then m else M.runFor n m.step) = _
  rw [h]; rfl

/-- a machine comes to an end -/
def Ends (m mf : M) : Prop := ∃ n, n ≤ 1000000000 ∧ m.runFor n = mf ∧ mf.outcome.isSome = true

section
variable {Mo : Model} {A : Around} {E : Value → Shared → Prop} {s : Shared}
theorem drive_ends {mf : M} (hf : mf.outcome.isSome = true) {Q : M → Shared → Prop} (q : Q mf s) : ∀ (turns n : Nat) (m : M), n ≤ 4 * turns → 0 < turns → m.runFor n = mf → wpAny Mo A (reDrive turns m) Q E s
  | 0, _, _, _, h, _ => absurd h (Nat.lt_irrefl _)
  | t + 1, n, m, hn, _, h => by
    unfold reDrive
    show wpAny Mo A (if (m.runFor 4).outcome.isSome then pure (m.runFor 4) else do rule "sre.turn"; reDrive t (m.runFor 4)) Q E s
    by_cases hle : n ≤ 4
    · have e : m.runFor 4 = mf := by
        have hk : 4 = n + (4 - n) := by omega
        rw [hk, runFor_add, h, runFor_done hf]
      rw [e, if_pos hf]
      exact wpAny_pure q
    · obtain ⟨k, rfl⟩ : ∃ k, n = 4 + k := ⟨n - 4, by omega⟩
      rw [runFor_add] at h
      cases ho : (m.runFor 4).outcome.isSome with
      | true =>
        rw [runFor_done ho] at h
        rw [if_pos rfl, h]
        exact wpAny_pure q
      | false =>
        rw [if_neg (by simp)]
        exact wpAny_bind (wpAny_rule (drive_ends hf q t k _ (by omega) (by omega) h))

theorem run_ends {m mf : M} (h : Ends m mf) {Q : Option M → Shared → Prop} (q : (mf.outcome = some .matched ∧ Q (some mf) s) ∨ (mf.outcome = some .failed ∧ Q none s)) : wpAny Mo A (reRunToEnd m) Q E s := by
  obtain ⟨n, hn, hr, ho⟩ := h
  unfold reRunToEnd
  refine wpAny_bind (drive_ends (s := s) ho ?_ (2 ^ 64) n m (Nat.le_trans hn (by decide)) (by decide) hr)
  refine wpAny_bind (wpAny_forIn_list _ (fun _ _ s' => s' = s) _ ?_ ?_ _ _ rfl)
  · rintro i rest b s' rfl
    refine wpAny_ite ?_
    split
    · exact wpAny_bind (wpAny_rule (wpAny_pure rfl))
    · exact wpAny_pure rfl
  rintro b s' rfl
  rcases q with ⟨e, q⟩ | ⟨e, q⟩
  · rw [e]; exact wpAny_pure q
  · rw [e]; exact wpAny_pure q
end
end PartR1
section PartR2
open PySem.Builtin.Re PySem.Sre

def C1 : Array Nat := #[14, 4, 0, 1, 1, 6, 1, 16, 46, 1]
def P1 (T : Array Nat) (L s pc pos hd : Nat) (om must : Bool) (sn : Sre.Seen) : M :=
  { code := C1, text := T, lim := L, start := s, lastStart := L, mustAdvance := must, pc := pc, pos := pos, handed := hd, outermost := om, marks := #[], frames := [{ wait := .nextStart, pc := 5, pos := s, outermost := om }], weight := 1, seen := sn }

section
variable {T : Array Nat} {L s pos hd : Nat} {om must : Bool} {sn : Sre.Seen}
theorem p1_at : ∃ sn', (P1 T L s 5 s hd om must sn).step = if (s == 0 || T.getD (s - 1) 0 == 10) = true then P1 T L s 7 s hd om must sn' else (P1 T L s 5 s hd om must sn').say false := ⟨_, rfl⟩
theorem p1_lit : (P1 T L s 7 s hd om must sn).step = if s ≥ L then (P1 T L s 7 s hd om must (sn.add 16)).say false else if (T.getD s 0 == 46) = true then P1 T L s 9 (s + 1) hd om must (sn.add 16) else (P1 T L s 7 s hd om must (sn.add 16)).say false := by
  show (if s ≥ L then (P1 T L s 7 s hd om must (sn.add 16)).say false else match (Except.ok (T.getD s 0 == 46, sn.add 16) : Except String (Bool × Sre.Seen)) with
    | .error why => (P1 T L s 7 s hd om must (sn.add 16)).stick why
    | .ok (false, seen) => (P1 T L s 7 s hd om must seen).say false
    | .ok (true, seen) => P1 T L s 9 (s + 1) hd om must seen) = _
  by_cases h : s ≥ L
  · rw [if_pos h, if_pos h]
  · rw [if_neg h, if_neg h]
    cases T.getD s 0 == 46 <;> rfl
theorem p1_end : ∃ sn', (P1 T L s 9 (s + 1) hd om must sn).step = if (om && ((false && (s + 1 != L)) || (must && (s + 1 == s)))) = true then (P1 T L s 9 (s + 1) hd om must sn').say false else (P1 T L s 9 (s + 1) (s + 1) om must sn').say true := ⟨_, rfl⟩
theorem p1_won {pc : Nat} : ((P1 T L s pc pos hd om must sn).say true).step.step = { P1 T L s 5 s hd om must sn with frames := [], weight := 0, answer := some true, outcome := some .matched } := rfl
theorem p1_lost {pc : Nat} : ((P1 T L s pc pos hd om must sn).say false).step = if s < L then P1 T L (s + 1) 5 (s + 1) (s + 1) false false sn else { P1 T L s 5 s hd om must sn with frames := [], weight := 0, answer := some false } := rfl
theorem p1_over : ({ P1 T L s 5 s hd om must sn with frames := [], weight := 0, answer := some false } : M).step = { P1 T L s 5 s hd om must sn with frames := [], weight := 0, answer := some false, outcome := some .failed } := rfl
theorem p1_start {h : s ≤ L} : ∃ sn, forSearch C1 T 0 s L must = if L - s < 1 then { P1 T L s 5 s s true must sn with frames := [], weight := 0, lastStart := 0, answer := some false } else P1 T L s 5 s s true must sn := by
  refine ⟨({} : Sre.Seen).add 14, ?_⟩
  by_cases h1 : L - s < 1
  · rw [if_pos h1]
    have c : (decide (s > L) || decide (L - s < 1)) = true := by simp; omega
    unfold forSearch
    exact (if_pos (c := (decide (s > L) || decide (L - s < 1)) = true) c).trans rfl
  · rw [if_neg h1]
    have c : ¬ (decide (s > L) || decide (L - s < 1)) = true := by simp; omega
    unfold forSearch
    exact (if_neg (c := (decide (s > L) || decide (L - s < 1)) = true) c).trans rfl
end
end PartR2
section PartR3
open PySem.Builtin.Re PySem.Sre

theorem run_cons {m m1 mf : M} {n : Nat} (ho : m.outcome = none) (hs : m.step = m1) (h : m1.runFor n = mf) : m.runFor (n + 1) = mf := by rw [runFor_step ho, hs]; exact h

def hit1 (T : Array Nat) (j : Nat) : Bool := (j == 0 || T.getD (j - 1) 0 == 10) && T.getD j 0 == 46
/-- what a search ends in: a span where the test first holds, or none -/
def Res (hit : Nat → Bool) (L s : Nat) (len : Nat → Nat) (mf : M) : Prop :=
  (∃ j, s ≤ j ∧ j < L ∧ hit j = true ∧ (∀ i, s ≤ i → i < j → hit i = false) ∧ mf.outcome = some .matched ∧ mf.start = j ∧ mf.handed = j + len j) ∨ ((∀ i, s ≤ i → i < L → hit i = false) ∧ mf.outcome = some .failed)
theorem Res.step {hit : Nat → Bool} {L s : Nat} {len : Nat → Nat} {mf : M} (h : Res hit L (s + 1) len mf) (hn : hit s = false) : Res hit L s len mf := by
  rcases h with ⟨j, h1, h2, h3, h4, r⟩ | ⟨h1, r⟩
  · refine .inl ⟨j, by omega, h2, h3, fun i hi hj => ?_, r⟩
    rcases Nat.eq_or_lt_of_le hi with rfl | hi
    · exact hn
    · exact h4 i hi hj
  · refine .inr ⟨fun i hi hj => ?_, r⟩
    rcases Nat.eq_or_lt_of_le hi with rfl | hi
    · exact hn
    · exact h1 i hi hj

theorem p1_search (T : Array Nat) (L : Nat) : ∀ (k s : Nat), L - s = k → s ≤ L → ∀ (om must : Bool) (sn : Sre.Seen), ∃ n mf, n ≤ 4 * (k + 1) ∧ (P1 T L s 5 s s om must sn).runFor n = mf ∧ Res (hit1 T) L s (fun _ => 1) mf := by
  intro k
  induction k with
  | zero =>
    intro s hk hs om must sn
    obtain rfl : s = L := by omega
    have fin : ∀ sn pc, ∃ mf, ((P1 T s s pc s s om must sn).say false).runFor 2 = mf ∧ Res (hit1 T) s s (fun _ => 1) mf := fun sn pc =>
      ⟨_, run_cons rfl (p1_lost.trans (if_neg (Nat.lt_irrefl _))) (run_cons rfl p1_over rfl), .inr ⟨fun i h1 h2 => by omega, rfl⟩⟩
    obtain ⟨sn1, h1⟩ := p1_at (T := T) (L := s) (s := s) (hd := s) (om := om) (must := must) (sn := sn)
    by_cases hb : (s == 0 || T.getD (s - 1) 0 == 10) = true
    · obtain ⟨mf, e, r⟩ := fin (sn1.add 16) 7
      exact ⟨4, mf, by omega, run_cons rfl (h1.trans (if_pos hb)) (run_cons rfl (p1_lit.trans (if_pos (Nat.le_refl _))) e), r⟩
    · obtain ⟨mf, e, r⟩ := fin sn1 5
      exact ⟨3, mf, by omega, run_cons rfl (h1.trans (if_neg hb)) e, r⟩
  | succ k ih =>
    intro s hk hs om must sn
    have hlt : s < L := by omega
    have next : ∀ sn pc, ∃ n mf, n ≤ 4 * (k + 1) + 1 ∧ ((P1 T L s pc s s om must sn).say false).runFor n = mf ∧ Res (hit1 T) L (s + 1) (fun _ => 1) mf := fun sn pc => by
      obtain ⟨n, mf, hn, e, r⟩ := ih (s + 1) (by omega) (by omega) false false sn
      exact ⟨n + 1, mf, by omega, run_cons rfl (p1_lost.trans (if_pos hlt)) e, r⟩
    obtain ⟨sn1, h1⟩ := p1_at (T := T) (L := L) (s := s) (hd := s) (om := om) (must := must) (sn := sn)
    by_cases hb : (s == 0 || T.getD (s - 1) 0 == 10) = true
    · by_cases hc : (T.getD s 0 == 46) = true
      · obtain ⟨sn3, h3⟩ := p1_end (T := T) (L := L) (s := s) (hd := s) (om := om) (must := must) (sn := sn1.add 16)
        have hcond : ¬ (om && ((false && (s + 1 != L)) || (must && (s + 1 == s)))) = true := by
          have : (s + 1 == s) = false := by rw [beq_eq_false_iff_ne]; omega
          rw [this]; simp
        refine ⟨5, _, by omega, run_cons rfl (h1.trans (if_pos hb)) (run_cons rfl ((p1_lit.trans (if_neg (Nat.not_le.mpr hlt))).trans (if_pos hc)) (run_cons rfl (h3.trans (if_neg hcond)) (run_cons rfl rfl (run_cons rfl rfl rfl)))), .inl ⟨s, Nat.le_refl _, hlt, ?_, fun i h1 h2 => by omega, rfl, rfl, rfl⟩⟩
        unfold hit1; rw [hb, hc]; rfl
      · obtain ⟨n, mf, hn, e, r⟩ := next (sn1.add 16) 7
        refine ⟨n + 2, mf, by omega, run_cons rfl (h1.trans (if_pos hb)) (run_cons rfl ((p1_lit.trans (if_neg (Nat.not_le.mpr hlt))).trans (if_neg hc)) e), r.step ?_⟩
        unfold hit1; rw [Bool.eq_false_iff.mpr hc]; simp
    · obtain ⟨n, mf, hn, e, r⟩ := next sn1 5
      refine ⟨n + 1, mf, by omega, run_cons rfl (h1.trans (if_neg hb)) e, r.step ?_⟩
      unfold hit1; rw [Bool.eq_false_iff.mpr hb]; rfl

theorem search1 (T : Array Nat) {L s : Nat} (must : Bool) (hs : s ≤ L) (hL : L ≤ 100000000) : ∃ mf, Ends (forSearch C1 T 0 s L must) mf ∧ Res (hit1 T) L s (fun _ => 1) mf := by
  obtain ⟨sn, h⟩ := p1_start (T := T) (must := must) (h := hs)
  by_cases h1 : L - s < 1
  · rw [h, if_pos h1]
    exact ⟨_, ⟨1, by decide, run_cons rfl rfl rfl, rfl⟩, .inr ⟨fun i h1 h2 => by omega, rfl⟩⟩
  · rw [h, if_neg h1]
    obtain ⟨n, mf, hn, e, r⟩ := p1_search T L (L - s) s rfl hs true must sn
    refine ⟨mf, ⟨n, by omega, e, ?_⟩, r⟩
    rcases r with ⟨j, _, _, _, _, ho, _⟩ | ⟨_, ho⟩ <;> rw [ho] <;> rfl
end PartR3
section PartR4
open PySem.Builtin.Re PySem.Sre

def C2 : Array Nat := #[14, 9, 4, 1, 2, 16, 10, 16, 13, 0, 7, 7, 16, 13, 16, 10, 15, 18, 5, 16, 10, 15, 13, 11, 16, 13, 5, 5, 0, 16, 10, 1, 15, 2, 0, 1]
def P2 (T : Array Nat) (L s pc pos hd : Nat) (om : Bool) (sn : Sre.Seen) (fr : List Sre.Frame) (wt : Nat) : M :=
  { code := C2, text := T, lim := L, start := s, lastStart := L, mustAdvance := false, pc := pc, pos := pos, handed := hd, outermost := om, marks := #[], frames := fr, weight := wt, seen := sn }
def F0 (s : Nat) (om : Bool) : Sre.Frame := { wait := .nextStart, pc := 10, pos := s, outermost := om }
def FB (a s : Nat) (om : Bool) : Sre.Frame := { wait := .nextBranch, pc := a, pos := s, outermost := om, kept := {} }
def FL (s : Nat) (om : Bool) : Sre.Frame := { wait := .lookNot, pc := 26, pos := s, outermost := om, kept := {} }

section
variable {T : Array Nat} {L s pos hd wt : Nat} {om : Bool} {sn : Sre.Seen} {fr : List Sre.Frame}
theorem p2_lit12 : (P2 T L s 12 pos hd om sn fr wt).step = if pos ≥ L then (P2 T L s 12 pos hd om (sn.add 16) fr wt).say false else if (T.getD pos 0 == 13) = true then P2 T L s 14 (pos + 1) hd om (sn.add 16) fr wt else (P2 T L s 12 pos hd om (sn.add 16) fr wt).say false := by
  show (if pos ≥ L then (P2 T L s 12 pos hd om (sn.add 16) fr wt).say false else match (Except.ok (T.getD pos 0 == 13, sn.add 16) : Except String (Bool × Sre.Seen)) with
    | .error why => (P2 T L s 12 pos hd om (sn.add 16) fr wt).stick why
    | .ok (false, seen) => (P2 T L s 12 pos hd om seen fr wt).say false
    | .ok (true, seen) => P2 T L s 14 (pos + 1) hd om seen fr wt) = _
  by_cases h : pos ≥ L
  · rw [if_pos h, if_pos h]
  · rw [if_neg h, if_neg h]
    cases T.getD pos 0 == 13 <;> rfl
theorem p2_lit14 : (P2 T L s 14 pos hd om sn fr wt).step = if pos ≥ L then (P2 T L s 14 pos hd om (sn.add 16) fr wt).say false else if (T.getD pos 0 == 10) = true then P2 T L s 16 (pos + 1) hd om (sn.add 16) fr wt else (P2 T L s 14 pos hd om (sn.add 16) fr wt).say false := by
  show (if pos ≥ L then (P2 T L s 14 pos hd om (sn.add 16) fr wt).say false else match (Except.ok (T.getD pos 0 == 10, sn.add 16) : Except String (Bool × Sre.Seen)) with
    | .error why => (P2 T L s 14 pos hd om (sn.add 16) fr wt).stick why
    | .ok (false, seen) => (P2 T L s 14 pos hd om seen fr wt).say false
    | .ok (true, seen) => P2 T L s 16 (pos + 1) hd om seen fr wt) = _
  by_cases h : pos ≥ L
  · rw [if_pos h, if_pos h]
  · rw [if_neg h, if_neg h]
    cases T.getD pos 0 == 10 <;> rfl
theorem p2_lit19 : (P2 T L s 19 pos hd om sn fr wt).step = if pos ≥ L then (P2 T L s 19 pos hd om (sn.add 16) fr wt).say false else if (T.getD pos 0 == 10) = true then P2 T L s 21 (pos + 1) hd om (sn.add 16) fr wt else (P2 T L s 19 pos hd om (sn.add 16) fr wt).say false := by
  show (if pos ≥ L then (P2 T L s 19 pos hd om (sn.add 16) fr wt).say false else match (Except.ok (T.getD pos 0 == 10, sn.add 16) : Except String (Bool × Sre.Seen)) with
    | .error why => (P2 T L s 19 pos hd om (sn.add 16) fr wt).stick why
    | .ok (false, seen) => (P2 T L s 19 pos hd om seen fr wt).say false
    | .ok (true, seen) => P2 T L s 21 (pos + 1) hd om seen fr wt) = _
  by_cases h : pos ≥ L
  · rw [if_pos h, if_pos h]
  · rw [if_neg h, if_neg h]
    cases T.getD pos 0 == 10 <;> rfl
theorem p2_lit24 : (P2 T L s 24 pos hd om sn fr wt).step = if pos ≥ L then (P2 T L s 24 pos hd om (sn.add 16) fr wt).say false else if (T.getD pos 0 == 13) = true then P2 T L s 26 (pos + 1) hd om (sn.add 16) fr wt else (P2 T L s 24 pos hd om (sn.add 16) fr wt).say false := by
  show (if pos ≥ L then (P2 T L s 24 pos hd om (sn.add 16) fr wt).say false else match (Except.ok (T.getD pos 0 == 13, sn.add 16) : Except String (Bool × Sre.Seen)) with
    | .error why => (P2 T L s 24 pos hd om (sn.add 16) fr wt).stick why
    | .ok (false, seen) => (P2 T L s 24 pos hd om seen fr wt).say false
    | .ok (true, seen) => P2 T L s 26 (pos + 1) hd om seen fr wt) = _
  by_cases h : pos ≥ L
  · rw [if_pos h, if_pos h]
  · rw [if_neg h, if_neg h]
    cases T.getD pos 0 == 13 <;> rfl
theorem p2_lit29 : (P2 T L s 29 pos hd om sn fr wt).step = if pos ≥ L then (P2 T L s 29 pos hd om (sn.add 16) fr wt).say false else if (T.getD pos 0 == 10) = true then P2 T L s 31 (pos + 1) hd om (sn.add 16) fr wt else (P2 T L s 29 pos hd om (sn.add 16) fr wt).say false := by
  show (if pos ≥ L then (P2 T L s 29 pos hd om (sn.add 16) fr wt).say false else match (Except.ok (T.getD pos 0 == 10, sn.add 16) : Except String (Bool × Sre.Seen)) with
    | .error why => (P2 T L s 29 pos hd om (sn.add 16) fr wt).stick why
    | .ok (false, seen) => (P2 T L s 29 pos hd om seen fr wt).say false
    | .ok (true, seen) => P2 T L s 31 (pos + 1) hd om seen fr wt) = _
  by_cases h : pos ≥ L
  · rw [if_pos h, if_pos h]
  · rw [if_neg h, if_neg h]
    cases T.getD pos 0 == 10 <;> rfl
theorem p2_branch : ∃ sn', (P2 T L s 10 s hd om sn [F0 s om] 1).step = P2 T L s 12 s s om sn' [FB 11 s om, F0 s om] 2 := ⟨_, rfl⟩
theorem p2_next1 {pc pos : Nat} : ((P2 T L s pc pos hd om sn [FB 11 s om, F0 s om] 2).say false).step = P2 T L s 19 s s om sn [FB 18 s om, F0 s om] 2 := rfl
theorem p2_next2 {pc pos : Nat} : ((P2 T L s pc pos hd om sn [FB 18 s om, F0 s om] 2).say false).step = P2 T L s 24 s s om sn [FB 23 s om, F0 s om] 2 := rfl
theorem p2_jump16 : ∃ sn', (P2 T L s 16 pos hd om sn fr wt).step = P2 T L s 35 pos hd om sn' fr wt := ⟨_, rfl⟩
theorem p2_jump21 : ∃ sn', (P2 T L s 21 pos hd om sn fr wt).step = P2 T L s 35 pos hd om sn' fr wt := ⟨_, rfl⟩
theorem p2_jump32 : ∃ sn', (P2 T L s 32 pos hd om sn fr wt).step = P2 T L s 35 pos hd om sn' fr wt := ⟨_, rfl⟩
theorem p2_end : ∃ sn', (P2 T L s 35 pos hd om sn fr wt).step = if (om && ((false && (pos != L)) || (false && (pos == s)))) = true then (P2 T L s 35 pos hd om sn' fr wt).say false else (P2 T L s 35 pos pos om sn' fr wt).say true := ⟨_, rfl⟩
theorem p2_look : ∃ sn', (P2 T L s 26 pos hd om sn [FB 23 s om, F0 s om] 2).step = if pos < 0 then P2 T L s 32 pos hd om sn' [FB 23 s om, F0 s om] 2 else P2 T L s 29 (pos - 0) (pos - 0) false sn' [FL pos om, FB 23 s om, F0 s om] 3 := ⟨_, rfl⟩
theorem p2_unlook {pos2 : Nat} {om2 : Bool} : ((P2 T L s 29 pos2 hd om2 sn [FL pos om, FB 23 s om, F0 s om] 3).say false).step = P2 T L s 32 pos hd om sn [FB 23 s om, F0 s om] 2 := rfl
theorem p2_won {a : Nat} : ∃ mf, ((P2 T L s 35 pos pos om sn [FB a s om, F0 s om] 2).say true).runFor 3 = mf ∧ mf.outcome = some .matched ∧ mf.start = s ∧ mf.handed = pos := ⟨_, rfl, rfl, rfl, rfl⟩
theorem p2_fin {a pos : Nat} (sn : Sre.Seen) : ∃ mf, (P2 T L s 35 pos hd om sn [FB a s om, F0 s om] 2).runFor 4 = mf ∧ mf.outcome = some .matched ∧ mf.start = s ∧ mf.handed = pos := by
  obtain ⟨sn', h⟩ := p2_end (T := T) (L := L) (s := s) (pos := pos) (hd := hd) (om := om) (sn := sn) (fr := [FB a s om, F0 s om]) (wt := 2)
  obtain ⟨mf, e, r⟩ := p2_won (T := T) (L := L) (s := s) (pos := pos) (om := om) (sn := sn') (a := a)
  exact ⟨mf, run_cons rfl (h.trans (if_neg (by simp))) e, r⟩

/-- how wide the mark is that stands at a place -/
def nlen (T : Array Nat) (L j : Nat) : Nat := if T.getD j 0 == 13 && decide (j + 1 < L) && T.getD (j + 1) 0 == 10 then 2 else 1
def hit2 (T : Array Nat) (j : Nat) : Bool := T.getD j 0 == 10 || T.getD j 0 == 13

theorem p2_match (hs : s < L) (hh : hit2 T s = true) : ∃ n mf, n ≤ 40 ∧ (P2 T L s 10 s s om sn [F0 s om] 1).runFor n = mf ∧ mf.outcome = some .matched ∧ mf.start = s ∧ mf.handed = s + nlen T L s := by
  have hs' : ¬ s ≥ L := Nat.not_le.mpr hs
  obtain ⟨sn1, h1⟩ := p2_branch (T := T) (L := L) (s := s) (hd := s) (om := om) (sn := sn)
  by_cases h13 : (T.getD s 0 == 13) = true
  · have h10 : ¬ (T.getD s 0 == 10) = true := by
      rw [beq_iff_eq] at h13; rw [beq_iff_eq, h13]; decide
    by_cases hn : s + 1 < L ∧ (T.getD (s + 1) 0 == 10) = true
    · have e : nlen T L s = 2 := by unfold nlen; rw [h13, hn.2, decide_eq_true hn.1]; rfl
      obtain ⟨sn2, h2⟩ := p2_jump16 (T := T) (L := L) (s := s) (pos := s + 2) (hd := s) (om := om) (sn := (sn1.add 16).add 16) (fr := [FB 11 s om, F0 s om]) (wt := 2)
      obtain ⟨mf, ef, r⟩ := p2_fin (T := T) (L := L) (s := s) (hd := s) (om := om) (a := 11) (pos := s + 2) sn2
      rw [e]
      exact ⟨8, mf, by omega, run_cons rfl h1 (run_cons rfl ((p2_lit12.trans (if_neg hs')).trans (if_pos h13)) (run_cons rfl ((p2_lit14.trans (if_neg (Nat.not_le.mpr hn.1))).trans (if_pos hn.2)) (run_cons rfl h2 ef))), r⟩
    · have e : nlen T L s = 1 := by
        unfold nlen
        rw [if_neg]
        intro c
        simp only [Bool.and_eq_true, decide_eq_true_eq] at c
        exact hn ⟨c.1.2, c.2⟩
      have miss14 : ∀ {sn : Sre.Seen} {hd : Nat} {fr : List Sre.Frame} {wt : Nat}, (P2 T L s 14 (s + 1) hd om sn fr wt).step = (P2 T L s 14 (s + 1) hd om (sn.add 16) fr wt).say false := by
        intro sn hd fr wt
        by_cases hl : s + 1 ≥ L
        · exact p2_lit14.trans (if_pos hl)
        · exact (p2_lit14.trans (if_neg hl)).trans (if_neg fun c => hn ⟨Nat.not_le.mp hl, c⟩)
      have miss29 : ∀ {sn : Sre.Seen} {hd : Nat} {fr : List Sre.Frame} {wt : Nat} {om : Bool}, (P2 T L s 29 (s + 1) hd om sn fr wt).step = (P2 T L s 29 (s + 1) hd om (sn.add 16) fr wt).say false := by
        intro sn hd fr wt om
        by_cases hl : s + 1 ≥ L
        · exact p2_lit29.trans (if_pos hl)
        · exact (p2_lit29.trans (if_neg hl)).trans (if_neg fun c => hn ⟨Nat.not_le.mp hl, c⟩)
      obtain ⟨sn5, h5⟩ := p2_look (T := T) (L := L) (s := s) (pos := s + 1) (hd := s) (om := om) (sn := (((sn1.add 16).add 16).add 16).add 16)
      obtain ⟨sn6, h6⟩ := p2_jump32 (T := T) (L := L) (s := s) (pos := s + 1) (hd := s + 1) (om := om) (sn := sn5.add 16) (fr := [FB 23 s om, F0 s om]) (wt := 2)
      obtain ⟨mf, ef, r⟩ := p2_fin (T := T) (L := L) (s := s) (hd := s + 1) (om := om) (a := 23) (pos := s + 1) sn6
      rw [e]
      refine ⟨15, mf, by omega, run_cons rfl h1 (run_cons rfl ((p2_lit12.trans (if_neg hs')).trans (if_pos h13)) (run_cons rfl miss14 (run_cons rfl p2_next1 (run_cons rfl ((p2_lit19.trans (if_neg hs')).trans (if_neg h10)) (run_cons rfl p2_next2
        (run_cons rfl ((p2_lit24.trans (if_neg hs')).trans (if_pos h13)) (run_cons rfl (h5.trans (if_neg (Nat.not_lt_zero _))) (run_cons rfl miss29 (run_cons rfl p2_unlook (run_cons rfl h6 ef)))))))))), r⟩
  · have h10 : (T.getD s 0 == 10) = true := by
      unfold hit2 at hh
      rw [Bool.eq_false_iff.mpr h13, Bool.or_false] at hh; exact hh
    have e : nlen T L s = 1 := by unfold nlen; rw [Bool.eq_false_iff.mpr h13]; rfl
    obtain ⟨sn2, h2⟩ := p2_jump21 (T := T) (L := L) (s := s) (pos := s + 1) (hd := s) (om := om) (sn := (sn1.add 16).add 16) (fr := [FB 18 s om, F0 s om]) (wt := 2)
    obtain ⟨mf, ef, r⟩ := p2_fin (T := T) (L := L) (s := s) (hd := s) (om := om) (a := 18) (pos := s + 1) sn2
    rw [e]
    exact ⟨9, mf, by omega, run_cons rfl h1 (run_cons rfl ((p2_lit12.trans (if_neg hs')).trans (if_neg h13)) (run_cons rfl p2_next1 (run_cons rfl ((p2_lit19.trans (if_neg hs')).trans (if_pos h10)) (run_cons rfl h2 ef)))), r⟩
end
end PartR4
section PartR5
open PySem.Builtin.Re PySem.Sre

theorem set2 (c : Nat) (sn : Sre.Seen) : inSet C2 c 36 5 true sn = if (c == 10) = true then .ok (true, sn.add 16) else if (c == 13) = true then .ok (true, (sn.add 16).add 16) else .ok (false, ((sn.add 16).add 16).add 0) := rfl

theorem adm2 {m : M} (hc : m.code = C2) : ∀ (fuel s : Nat) (sn : Sre.Seen), m.lim + 1 - s ≤ fuel →
    (∃ j sn', s ≤ j ∧ j < m.lim ∧ hit2 m.text j = true ∧ (∀ i, s ≤ i → i < j → hit2 m.text i = false) ∧ M.admitted m fuel s sn = .ok (some j, sn')) ∨ ((∀ i, s ≤ i → i < m.lim → hit2 m.text i = false) ∧ ∃ sn', M.admitted m fuel s sn = .ok (none, sn'))
  | 0, s, sn, hf => .inr ⟨fun i h1 h2 => by omega, sn, rfl⟩
  | fuel + 1, s, sn, hf => by
    have key : M.admitted m (fuel + 1) s sn = if s ≥ m.lim then .ok (none, sn) else match inSet C2 (m.text.getD s 0) 36 5 true sn with
      | .ok (true, seen) => .ok (some s, seen)
      | .ok (false, seen) => M.admitted m fuel (s + 1) seen
      | .error why => .error why := by
      show (if s ≥ m.lim then (Except.ok (none, sn) : Except String (Option Nat × Sre.Seen)) else match inSet m.code (m.text.getD s 0) m.code.size 5 true sn with
        | .ok (true, seen) => .ok (some s, seen)
        | .ok (false, seen) => M.admitted m fuel (s + 1) seen
        | .error why => .error why) = _
      rw [hc]
      rfl
    rw [key]
    by_cases hl : s ≥ m.lim
    · rw [if_pos hl]; exact .inr ⟨fun i h1 h2 => by omega, sn, rfl⟩
    rw [if_neg hl, set2]
    by_cases h10 : (m.text.getD s 0 == 10) = true
    · rw [if_pos h10]
      exact .inl ⟨s, _, Nat.le_refl _, by omega, by unfold hit2; rw [h10]; rfl, fun i h1 h2 => by omega, rfl⟩
    rw [if_neg h10]
    by_cases h13 : (m.text.getD s 0 == 13) = true
    · rw [if_pos h13]
      exact .inl ⟨s, _, Nat.le_refl _, by omega, by unfold hit2; rw [h13]; simp, fun i h1 h2 => by omega, rfl⟩
    rw [if_neg h13]
    have hmiss : hit2 m.text s = false := by unfold hit2; rw [Bool.eq_false_iff.mpr h10, Bool.eq_false_iff.mpr h13]; rfl
    rcases adm2 hc fuel (s + 1) (((sn.add 16).add 16).add 0) (by omega) with ⟨j, sn', h1, h2, h3, h4, h5⟩ | ⟨h1, sn', h5⟩
    · refine .inl ⟨j, sn', by omega, h2, h3, fun i hi hj => ?_, h5⟩
      rcases Nat.eq_or_lt_of_le hi with rfl | hi
      · exact hmiss
      · exact h4 i hi hj
    · refine .inr ⟨fun i hi hj => ?_, sn', h5⟩
      rcases Nat.eq_or_lt_of_le hi with rfl | hi
      · exact hmiss
      · exact h1 i hi hj

theorem p2_start {T : Array Nat} {L s : Nat} {must : Bool} (hs : s ≤ L) (h1 : ¬ L - s < 1) : ∃ m : M, m.code = C2 ∧ m.text = T ∧ m.lim = L ∧ m.outcome = none ∧ (∀ j sn, ({ m with mustAdvance := false, seen := sn } : M).attemptAt j true = P2 T L j 10 j j true sn [F0 j true] 1) ∧ (∀ sn, ∃ mf, (({ m with seen := sn } : M).say false).runFor 1 = mf ∧ mf.outcome = some .failed) ∧
    forSearch C2 T 0 s L must = (match M.admitted m (L + 1 - s) s m.seen with
      | .ok (some j, seen) => ({ m with mustAdvance := false, seen := seen } : M).attemptAt j true
      | .ok (none, seen) => ({ m with seen := seen } : M).say false
      | .error why => m.stick why) := by
  have c : ¬ (decide (s > L) || decide (L - s < 1)) = true := by simp; omega
  refine ⟨{ code := C2, text := T, lim := L, start := s, lastStart := L, mustAdvance := must, pc := 10, pos := s, handed := s, marks := #[], seen := ({} : Sre.Seen).add 14 }, rfl, rfl, rfl, rfl, fun j sn => rfl, fun sn => ⟨_, rfl, rfl⟩, ?_⟩
  unfold forSearch
  exact (if_neg (c := (decide (s > L) || decide (L - s < 1)) = true) c).trans rfl

theorem search2 (T : Array Nat) {L s : Nat} (must : Bool) (hs : s ≤ L) : ∃ mf, Ends (forSearch C2 T 0 s L must) mf ∧ Res (hit2 T) L s (nlen T L) mf := by
  by_cases h1 : L - s < 1
  · have c : (decide (s > L) || decide (L - s < 1)) = true := by simp; omega
    have e : forSearch C2 T 0 s L must = ({ code := C2, text := T, lim := L, start := s, mustAdvance := must, pc := 10, pos := s, handed := s, marks := #[], seen := ({} : Sre.Seen).add 14 } : M).say false := by
      unfold forSearch
      exact (if_pos (c := (decide (s > L) || decide (L - s < 1)) = true) c).trans rfl
    rw [e]
    exact ⟨_, ⟨1, by decide, rfl, rfl⟩, .inr ⟨fun i h1 h2 => by omega, rfl⟩⟩
  · obtain ⟨m, hc, ht, hl, ho, hat, hno, e⟩ := p2_start (T := T) (must := must) hs h1
    rw [e]
    rcases adm2 hc (L + 1 - s) s m.seen (by omega) with ⟨j, sn', j1, j2, j3, j4, h5⟩ | ⟨j1, sn', h5⟩
    · rw [h5]
      rw [ht] at j3 j4
      rw [hl] at j2
      obtain ⟨n, mf, hn, er, hm, hst, hhd⟩ := p2_match (T := T) (L := L) (s := j) (om := true) (sn := sn') j2 j3
      refine ⟨mf, ⟨n, by omega, (congrArg (M.runFor n) (hat j sn')).trans er, by rw [hm]; rfl⟩, .inl ⟨j, j1, j2, j3, j4, hm, hst, hhd⟩⟩
    · rw [h5]
      rw [ht, hl] at j1
      obtain ⟨mf, er, hm⟩ := hno sn'
      exact ⟨mf, ⟨1, by decide, er, by rw [hm]; rfl⟩, .inr ⟨j1, hm⟩⟩
end PartR5
section PartR6
open PySem.Builtin.Re PySem.Builtin

/-- a compiled pattern stands there -/
structure Pat (h : Heap) (pa : Addr) (C : Array Nat) : Prop where
  ex : ∃ o fs ca oc items n, h.get? pa = some o ∧ o.cls = .type "re.Pattern" ∧ o.dict = none ∧ o.data = .fields fs ∧ reRawNat (fs.getD 6 .none) = 0 ∧ reRawNat (fs.getD 2 .none) = 0 ∧ fs.getD 5 .none = .ref ca ∧
    h.get? ca = some oc ∧ oc.data = .seq items n ∧ (items.map reRawOf).map (·.toNat) = C
theorem Pat.keeps {h h' : Heap} {pa : Addr} {C : Array Nat} (p : Pat h pa C) (e : Ext h h') : Pat h' pa C := by
  obtain ⟨o, fs, ca, oc, items, n, h1, h2, h3, h4, h5, h6, h7, h8, r⟩ := p.ex
  exact ⟨o, fs, ca, oc, items, n, e _ _ h1, h2, h3, h4, h5, h6, h7, e _ _ h8, r⟩

section
variable {M : Model} {A : Around} {E : Value → Shared → Prop} {s : Shared} {pa : Addr} {C : Array Nat} {x : Str} {t : Tok}
theorem target_ok (p : Pat s.heap pa C) {Q : ReTarget → Shared → Prop} (q : Q ⟨.ref pa, .str x t, C, x.cps, 0, 0, 0, x.cps.size⟩ s) : wpAny M A (reWholeTarget (.ref pa) (.str x t)) Q E s := by
  obtain ⟨o, fs, ca, oc, items, n, h1, h2, h3, h4, h5, h6, h7, h8, h9, h10⟩ := p.ex
  unfold reWholeTarget
  refine wpAny_bind (wpAny_fieldsOf h1 h4 ?_)
  refine wpAny_bind (m := reTextOf (.str x t)) (wpAny_pure (a := (x.cps, 0)) ?_)
  simp only [h5, h7]
  show wpAny M A (do
    reNoCollectionInside (.str x t) 0
    pure { pattern := .ref pa, string := .str x t, code := (← reRawItems (.ref ca)).map (·.toNat), text := x.cps, kind := 0, groups := reRawNat (fs.getD 2 .none), pos := 0, lim := x.cps.size }) Q E s
  refine wpAny_bind (m := reNoCollectionInside (.str x t) 0) (wpAny_pure (a := ()) ?_)
  unfold reRawItems
  refine wpAny_bind (wpAny_bind (wpAny_seqItems h8 h9 (wpAny_pure ?_)))
  refine wpAny_pure ?_
  show Q ⟨_, _, (items.map reRawOf).map (·.toNat), _, _, _, _, _⟩ s
  rw [h10, h6]; exact q
end
end PartR6
section PartR7
open PySem.Builtin.Re PySem.Builtin

theorem lp_entry : entryFor table "re.Pattern.sub.loop" = some Builtin.«re.Pattern.sub.loop» := entryFor_of_tree (by kernel_rfl)

/-- what a substitution makes of the rest from a place on -/
inductive SubR (hit : Nat → Bool) (len : Nat → Nat) (rep T : List Nat) : Nat → List Nat → Prop
  | fin {d : Nat} : (∀ i, d ≤ i → i < T.length → hit i = false) → SubR hit len rep T d (T.drop d)
  | hit {d j : Nat} {out : List Nat} : d ≤ j → j < T.length → hit j = true → (∀ i, d ≤ i → i < j → hit i = false) → SubR hit len rep T (j + len j) out → SubR hit len rep T d ((T.drop d).take (j - d) ++ (rep ++ out))

theorem S_cut (T : List Nat) (b e : Nat) : (⟨T.toArray.extract b e⟩ : Str) = S ((T.drop b).take (e - b)) := by
  unfold S
  congr 1
  apply Array.ext'
  simp

section
variable {w : World} {A : Around} {E : Value → Shared → Prop} {s : Shared} {l : Addr} {vs : Array Value} {v : Value}
theorem push_pl {Q : Unit → Shared → Prop} (hl : PlainL s.heap l vs) (hz : vs.size ≤ 1000000) (q : ∀ h', PlainL h' l (vs.push v) → Heap.SameBut l s.heap h' → Q () { s with heap := h' }) : wpAny (model prg w) A (updateSeq l (·.push v)) Q E s := by
  obtain ⟨o, n, ho, hc, hdn, hd⟩ := hl
  obtain ⟨n', hd'⟩ := Obj.data_mapSeq hd (·.push v)
  refine wpAny_updateSeq ho hd (q _ ⟨_, n', Heap.get?_update_self _ ho (Obj.isFreed_of_seq hd'), (Obj.cls_mapSeq ..).trans hc, (by obtain ⟨c, d, dt, sl⟩ := o; cases dt <;> exact hdn), hd'⟩ (Heap.SameBut.update ..)) ?_ ?_
  · rw [sizeLine_eq]; omega
  · rw [sizeLine_eq, Array.size_push]; omega
end

theorem RdL.strs {h : Heap} {P : Addr → Prop} : ∀ {vs : List Value} {ps : List Str}, RdL h P vs (ps.map .str) → StrsAre vs ps
  | [], [], _ => .nil
  | [], _ :: _, r => by cases r
  | _ :: _, [], r => by cases r
  | v :: vs, p :: ps, r => by
    obtain ⟨u, us, e, a, b⟩ := r.cons_inv
    cases e
    obtain ⟨t, rfl⟩ := a.str_inv
    exact .cons p t (RdL.strs b)

/-- texts with glue between -/
def joinL (g : List Nat) : List (List Nat) → List Nat
  | [] => []
  | a :: r => a ++ (r.map (g ++ ·)).flatten
theorem join_SG (g : List Nat) (ls : List (List Nat)) : Txt.join (S g) (ls.map S) = S (joinL g ls) := by
  have key : ∀ (r : List (List Nat)) (acc : List Nat), (r.map S).foldl (fun (acc : Array Nat) (p : Str) => acc ++ (S g).cps ++ p.cps) acc.toArray = (acc ++ (r.map (g ++ ·)).flatten).toArray := by
    intro r
    induction r with
    | nil => intro acc; simp
    | cons a r ih =>
      intro acc
      rw [List.map_cons, List.foldl_cons]
      have : acc.toArray ++ (S g).cps ++ (S a).cps = (acc ++ g ++ a).toArray := by simp [S]
      rw [this, ih]
      simp
  cases ls with
  | nil => rfl
  | cons a r =>
    have := key r a
    show (⟨(r.map S).foldl (fun (acc : Array Nat) (p : Str) => acc ++ (S g).cps ++ p.cps) a.toArray⟩ : Str) = S _
    rw [this]; rfl
theorem join_S (ls : List (List Nat)) : Txt.join (S []) (ls.map S) = S ls.flatten := by
  rw [join_SG]
  congr 1
  cases ls with
  | nil => rfl
  | cons a r => simp [joinL]

theorem fl1 (ps : List (List Nat)) (x : List Nat) : (ps ++ [x]).flatten = ps.flatten ++ x := by simp
theorem sum_len : ∀ ls : List (List Nat), ((ls.map S).map (·.length)).sum = ls.flatten.length
  | [] => rfl
  | a :: ls => by
    rw [List.map_cons, List.map_cons, List.sum_cons, sum_len ls, S_len, List.flatten_cons, List.length_append]

theorem tail_ok {w : World} {A : Around} {E : Value → Shared → Prop} {s : Shared} {l : Addr} {vs : Array Value} {ps : List (List Nat)} {T : List Nat} {n : Int} {Q : Fin → Shared → Prop} (hpl : PlainL s.heap l vs)
    (hrd : RdL s.heap (fun _ => True) vs.toList ((ps.map S).map .str)) (hsz : ps.flatten.length ≤ 1000000) (q : ∀ tk k, Q (.done (.ret (.str (S ps.flatten) tk))) { s with toks := k }) :
    wpAny (model prg w) A (do
      let joiner ← reSlice (S T).cps 0 0 0
      let text ← if ((← seqItems? (.ref l)).getD #[]).isEmpty then pure joiner else call (.builtin "str.join") [joiner, .ref l]
      if false then ret (← holding [text] do newTuple [text, ← mkInt n]) else ret text) Q E s := by
  have hpl' := hpl
  obtain ⟨o, k, ho, hc, hdn, hd⟩ := hpl
  refine wpAny_bind (m := mkStr ⟨(S T).cps.extract 0 0⟩) (wpAny_mkStr ?_ (by show (Array.size _) ≤ _; simp))
  have e0 : (⟨(S T).cps.extract 0 0⟩ : Str) = S [] := by unfold S; simp
  rw [e0]
  refine wpAny_bind (wpAny_seqItems (s := { s with toks := s.toks + 1 }) ho hd ?_)
  show wpAny _ _ (if vs.isEmpty = true then _ else _) _ _ _
  cases hv : vs.isEmpty with
  | true =>
    have hvn : vs = #[] := by simpa using hv
    subst hvn
    have hps : ps = [] := by
      have := hrd.length
      simp at this
      exact List.length_eq_zero_iff.mp this.symm
    subst hps
    exact wpAny_pure (q _ _)
  | false =>
    rw [if_neg (by simp)]
    refine wpAny_bind (join_list (s := { s with toks := s.toks + 1 }) hpl'.isList hrd.strs ?_ fun t' k => ?_)
    · rw [sum_len, S_len, List.length_nil, Nat.mul_zero]
      omega
    · rw [join_S]
      exact wpAny_pure (q _ _)

section
variable {w : World} {A : Around} {E : Value → Shared → Prop} {h₀ : Heap} {pa l : Addr} {C : Array Nat} {T rep : List Nat} {t rt : Tok} {hit : Nat → Bool} {len : Nat → Nat}

theorem next_ok {s : Shared} {R : Value → Shared → Prop} {d : Nat} {must : Bool} {mf : Sre.M} {Q : Option Sre.M → Shared → Prop} (he : Ends (Sre.forSearch C T.toArray 0 d T.length must) mf) (q : (mf.outcome = some .matched ∧ Q (some mf) s) ∨ (mf.outcome = some .failed ∧ Q none s)) :
    wpAny (model prg w) A (reNextFound ⟨.ref pa, .str (S T) t, C, (S T).cps, 0, 0, 0, (S T).cps.size⟩ d must) Q R s := run_ends (by simpa [S] using he) q

theorem loop_ok (p : Pat h₀ pa C) (hl0 : h₀.get? l = none) (hT : T.length ≤ 100000) (hrep : rep.length ≤ 2) (hlen : ∀ j, j < T.length → 1 ≤ len j ∧ j + len j ≤ T.length)
    (hsearch : ∀ d must, d ≤ T.length → ∃ mf, Ends (Sre.forSearch C T.toArray 0 d T.length must) mf ∧ Res hit T.length d len mf) {d : Nat} {out : List Nat} (hr : SubR hit len rep T d out) :
    ∀ {s : Shared} {R : Result → Shared → Prop} {vs : Array Value} {ps : List (List Nat)} {must : Bool} {n : Int}, d ≤ T.length → Ext h₀ s.heap → PlainL s.heap l vs → RdL s.heap (fun _ => True) vs.toList ((ps.map S).map .str) → vs.size ≤ 2 * d → ps.flatten.length ≤ 3 * d →
      (∀ tk h' k, Ext h₀ h' → R (.ok (.ret (.str (S (ps.flatten ++ out)) tk))) { s with heap := h', toks := k }) →
      codeAny (model prg w) A (.builtin "re.Pattern.sub.loop" ⟨[.ref pa, .str (S T) t, .str (S rep) rt, rawInt 0, rawInt 0, rawInt n, rawInt d, rawInt d, .bool must, .ref l, .bool false], []⟩) R s := by
  have szT : (S T).cps.size = T.length := by simp [S]
  induction hr with
  | @fin d hno =>
    intro s R vs ps must n hd e hpl hrd hvs hps q
    refine codeAny_builtin lp_entry ?_
    unfold Builtin.«re.Pattern.sub.loop»
    refine wpAny_bind (target_ok (p.keeps e) ?_)
    refine wpAny_bind (m := reLiteralCannotBeTurned (.str (S rep) rt)) (wpAny_pure (a := ()) ?_)
    obtain ⟨mf, he, hres⟩ := hsearch d must hd
    refine wpAny_bind (m := reNextFound ⟨.ref pa, .str (S T) t, C, (S T).cps, 0, 0, 0, (S T).cps.size⟩ d must) (next_ok he (.inr ⟨?_, ?_⟩))
    · rcases hres with ⟨j, h1, h2, h3, _⟩ | ⟨_, h⟩
      · rw [hno j h1 h2] at h3; cases h3
      · exact h
    show wpAny _ _ (if d < (S T).cps.size then _ else _) _ _ _
    rw [szT]
    by_cases hlt : d < T.length
    · rw [if_pos hlt]
      refine wpAny_bind (m := mkStr ⟨(S T).cps.extract d T.length⟩) (wpAny_mkStr ?_ ?_)
      rotate_left
      · show Array.size _ ≤ _
        rw [sizeLine_eq]; simp; omega
      rw [show (⟨(S T).cps.extract d T.length⟩ : Str) = S (T.drop d) by
        have := S_cut T d T.length
        rw [List.take_of_length_le (by simp)] at this
        exact this]
      refine wpAny_bind (push_pl (s := { s with toks := s.toks + 1 }) hpl (by omega) fun h' hpl' hb => ?_)
      have e' : Ext h₀ h' := fun b o ho => (hb.2 b fun q => by rw [q, hl0] at ho; cases ho).trans (e b o ho)
      refine tail_ok (s := { s with heap := h', toks := s.toks + 1 }) (ps := ps ++ [T.drop d]) hpl' ?_ ?_ fun tk k => ?_
      · have := (RdL.of_atoms_heap (h' := h') (P' := fun _ => True) (by simp [atom]) hrd).append (.cons (.str (S (T.drop d)) s.toks) .nil)
        rw [Array.toList_push, List.map_append, List.map_append]
        exact this
      · rw [fl1, List.length_append, List.length_drop]
        omega
      · have := q tk h' k e'
        rw [fl1]
        exact this
    · rw [if_neg hlt]
      have eo : T.drop d = [] := List.drop_eq_nil_of_le (by omega)
      refine tail_ok hpl hrd (by omega) fun tk k => ?_
      have := q tk s.heap k e
      rw [eo, List.append_nil] at this
      exact this
  | @hit d j out h1 h2 h3 h4 _ ih =>
    intro s R vs ps must n hd e hpl hrd hvs hps q
    refine codeAny_builtin lp_entry ?_
    unfold Builtin.«re.Pattern.sub.loop»
    refine wpAny_bind (target_ok (p.keeps e) ?_)
    refine wpAny_bind (m := reLiteralCannotBeTurned (.str (S rep) rt)) (wpAny_pure (a := ()) ?_)
    obtain ⟨mf, he, hres⟩ := hsearch d must hd
    obtain ⟨l1, l2⟩ := hlen j h2
    have hm : mf.outcome = some .matched ∧ mf.start = j ∧ mf.handed = j + len j := by
      rcases hres with ⟨j', a1, a2, a3, a4, a5, a6, a7⟩ | ⟨a1, _⟩
      · have : j' = j := by
          rcases Nat.lt_trichotomy j' j with q | q | q
          · rw [h4 j' a1 q] at a3; cases a3
          · exact q
          · rw [a4 j h1 q] at h3; cases h3
        subst this
        exact ⟨a5, a6, a7⟩
      · rw [a1 j h1 h2] at h3; cases h3
    refine wpAny_bind (m := reNextFound ⟨.ref pa, .str (S T) t, C, (S T).cps, 0, 0, 0, (S T).cps.size⟩ d must) (next_ok he (.inl ⟨hm.1, ?_⟩))
    -- the loop's next turn
    have again_ok : ∀ {s : Shared} {vs : Array Value} {ps : List (List Nat)}, Ext h₀ s.heap → PlainL s.heap l vs → RdL s.heap (fun _ => True) vs.toList ((ps.map S).map .str) → vs.size ≤ 2 * (j + len j) → ps.flatten.length ≤ 3 * (j + len j) →
        (∀ tk h' k, Ext h₀ h' → R (.ok (.ret (.str (S (ps.flatten ++ out)) tk))) { s with heap := h', toks := k }) →
        wpAny (model prg w) (A.under (.builtin "re.Pattern.sub.loop" ⟨[.ref pa, .str (S T) t, .str (S rep) rt, rawInt 0, rawInt 0, rawInt n, rawInt d, rawInt d, .bool must, .ref l, .bool false], []⟩))
          (again (.builtin "re.Pattern.sub.loop" ⟨[.ref pa, .str (S T) t, .str (S rep) rt, rawInt 0, rawInt 0, rawInt (n + 1), rawInt mf.handed, rawInt mf.handed, .bool (mf.handed == j), .ref l, .bool false], []⟩))
          (fun fin s' => match fin with | .done f => R (.ok f) s' | .again c' => c'.quiet = true ∧ codeAny (model prg w) A c' R s') (fun e s' => R (.error e) s') s := by
      intro s vs ps e hpl hrd hvs hps q
      rw [hm.2.2]
      exact wpAny_pure ⟨Code.quiet_builtin _ (by decide +kernel), ih l2 e hpl hrd hvs hps q⟩
    show wpAny _ _ (if d < mf.start then _ else _) _ _ _
    rw [hm.2.1]
    by_cases hlt : d < j
    · rw [if_pos hlt]
      refine wpAny_bind (m := mkStr ⟨(S T).cps.extract d j⟩) (wpAny_mkStr ?_ ?_)
      rotate_left
      · show Array.size _ ≤ _
        rw [sizeLine_eq]; simp; omega
      rw [show (⟨(S T).cps.extract d j⟩ : Str) = S ((T.drop d).take (j - d)) from S_cut T d j]
      refine wpAny_bind (push_pl (s := { s with toks := s.toks + 1 }) hpl (by omega) fun h' hpl' hb => ?_)
      have e' : Ext h₀ h' := fun b o ho => (hb.2 b fun q => by rw [q, hl0] at ho; cases ho).trans (e b o ho)
      refine wpAny_bind (m := pure (Value.str (S rep) rt)) (wpAny_pure ?_)
      refine wpAny_bind (push_pl (s := { s with heap := h', toks := s.toks + 1 }) (v := .str (S rep) rt) hpl' (by rw [Array.size_push]; omega) fun h2 hpl2 hb2 => ?_)
      have e2 : Ext h₀ h2 := fun b o ho => (hb2.2 b fun q => by rw [q, hl0] at ho; cases ho).trans (e' b o ho)
      refine again_ok (s := { s with heap := h2, toks := s.toks + 1 }) (ps := ps ++ [(T.drop d).take (j - d)] ++ [rep]) e2 hpl2 ?_ ?_ ?_ fun tk h3 k e3 => ?_
      · have := ((RdL.of_atoms_heap (h' := h2) (P' := fun _ => True) (by simp [atom]) hrd).append (.cons (.str (S ((T.drop d).take (j - d))) s.toks) .nil)).append (.cons (.str (S rep) rt) .nil)
        rw [Array.toList_push, Array.toList_push, List.map_append, List.map_append, List.map_append, List.map_append]
        exact this
      · rw [Array.size_push, Array.size_push]; omega
      · rw [fl1, fl1, List.length_append, List.length_append, List.length_take, List.length_drop]
        omega
      · have := q tk h3 k e3
        rw [fl1, fl1, List.append_assoc, List.append_assoc]
        exact this
    · rw [if_neg hlt]
      obtain rfl : d = j := by omega
      refine wpAny_bind (m := pure (Value.str (S rep) rt)) (wpAny_pure ?_)
      refine wpAny_bind (push_pl (v := .str (S rep) rt) hpl (by omega) fun h2 hpl2 hb2 => ?_)
      have e2 : Ext h₀ h2 := fun b o ho => (hb2.2 b fun q => by rw [q, hl0] at ho; cases ho).trans (e b o ho)
      refine again_ok (s := { s with heap := h2 }) (ps := ps ++ [rep]) e2 hpl2 ?_ ?_ ?_ fun tk h3 k e3 => ?_
      · have := (RdL.of_atoms_heap (h' := h2) (P' := fun _ => True) (by simp [atom]) hrd).append (.cons (.str (S rep) rt) .nil)
        rw [Array.toList_push, List.map_append, List.map_append]
        exact this
      · rw [Array.size_push]; omega
      · rw [fl1, List.length_append]
        omega
      · have := q tk h3 k e3
        rw [fl1, List.append_assoc]
        rw [Nat.sub_self, List.take_zero, List.nil_append] at this
        exact this
end
end PartR7
section PartR8
open PySem.Builtin.Re PySem.Builtin
theorem sub_entry : entryFor table "re.Pattern.sub" = some Builtin.«re.Pattern.sub» := entryFor_of_tree (by kernel_rfl)
theorem sub_slot : Slot "re.Pattern" "sub" "re.Pattern.sub" :=
  .of (owner := "re.Pattern") (n := "sub") (by rw [typeLookup_type, builtinLookup_eq_fast]; kernel_rfl) (by decide +kernel) (by decide +kernel) (by decide +kernel)
    (by first | exact .inl (by decide +kernel) | exact .inr (by decide +kernel)) (by rw [isSubtype_type]; kernel_rfl)
theorem sub_type : typeOf (.builtin "re.Pattern.sub") = pure (.type "method_descriptor") := by show builtinType _ = _; rw [builtinType_eq_fast]; kernel_rfl
theorem sub_args (a b c : Value) : argsOk "re.Pattern.sub" ⟨[a, b, c], []⟩ := by unfold argsOk; kernel_rfl
theorem sub_named (a b : Value) : reNamed "re.Pattern.sub" "sub" ["repl", "string", "count"] 2 [a, b] [] = pure [some a, some b, none] := rfl
theorem str_call : typeLookup (.type "str") "__call__" = pure none := by rw [typeLookup_type, builtinLookup_eq_fast]; kernel_rfl
theorem pa_pat : PlainAttrs "re.Pattern" :=
  ⟨⟨"object.__getattribute__", by rw [typeLookup_type, builtinLookup_eq_fast]; kernel_rfl, by decide +kernel⟩, by rw [typeLookup_type, builtinLookup_eq_fast]; kernel_rfl⟩

theorem sub_ok {w : World} {A : Around} {E : Value → Shared → Prop} {s : Shared} {pa : Addr} {C : Array Nat} {T rep out : List Nat} {t rt : Tok} {hit : Nat → Bool} {len : Nat → Nat} {Q : Value → Shared → Prop} (p : Pat s.heap pa C) (hT : T.length ≤ 100000) (hrep : rep.length ≤ 2) (hb : (S rep).cps.contains 92 = false)
    (hlen : ∀ j, j < T.length → 1 ≤ len j ∧ j + len j ≤ T.length)
    (hsearch : ∀ d must, d ≤ T.length → ∃ mf, Ends (Sre.forSearch C T.toArray 0 d T.length must) mf ∧ Res hit T.length d len mf) (hr : SubR hit len rep T 0 out)
    (q : ∀ tk h' k, Ext s.heap h' → Q (.str (S out) tk) { s with heap := h', toks := k }) : wpAny (model prg w) A (call (.builtin "re.Pattern.sub") [.ref pa, .str (S rep) rt, .str (S T) t]) Q E s := by
  obtain ⟨o, fs, ca, oc, items, n, h1, h2, _⟩ := p.ex
  have hTy : s.TypeIs (.ref pa) "re.Pattern" := ⟨o, h1, h2⟩
  refine wpAny_call (codeAny_call_builtin sub_slot.plain sub_entry (sub_slot.check _ _ _ _ _ _ _ _ hTy (sub_args _ _ _) ?_))
  unfold Builtin.«re.Pattern.sub» reSubstitute
  refine wpAny_bind (wpAny_of_eq (sub_named _ _) ?_)
  refine wpAny_bind (m := pure (0 : Int)) (wpAny_pure ?_)
  refine wpAny_bind (wpAny_specialOf (s := s) (show s.TypeIs (.str (S rep) rt) "str" from rfl) str_call ?_)
  refine wpAny_bind (m := asStr? (.str (S rep) rt)) (wpAny_pure (a := some (S rep)) ?_)
  refine wpAny_bind (m := pure (!(S rep).cps.contains 92)) (wpAny_pure ?_)
  rw [hb]
  refine wpAny_bind (m := pure (Value.str (S rep) rt, (0 : Int))) (wpAny_pure ?_)
  refine wpAny_bind (wpAny_holding (target_ok p ?_))
  refine wpAny_bind (m := newList []) (wpAny_newList ?_ (by show 0 ≤ sizeLine; omega))
  have hf : s.heap.get? s.heap.objs.size = none := push_free
  refine wpAny_pure ⟨Code.quiet_builtin _ (by decide +kernel), ?_⟩
  refine loop_ok (h₀ := s.heap) (l := s.heap.objs.size) (s := { s with heap := s.heap.push { cls := .type "list", data := .seq #[] } }) (vs := #[]) (ps := []) (n := 0) (d := 0) p hf hT hrep hlen hsearch hr (Nat.zero_le _) ext_push isList_push .nil (Nat.le_refl _) (Nat.le_refl _) fun tk h' k e => ?_
  exact q tk h' k e
end PartR8
section PartR9
open PySem.Builtin.Re PySem.Builtin
theorem pat1 {w : World} {h : Heap} (X : (KF w).In h) : Pat h 78 C1 := by
  have e1 : ∃ o fs, (MineHead.heapK w.params).lookup 78 = some ⟨.type "re.Pattern", none, .fields fs, o⟩ ∧ reRawNat (fs.getD 6 .none) = 0 ∧ reRawNat (fs.getD 2 .none) = 0 ∧ fs.getD 5 .none = .ref 77 := ⟨_, _, by k_is, rfl, rfl, rfl⟩
  have e2 : ∃ items n d o, (MineHead.heapK w.params).lookup 77 = some ⟨.type "tuple", d, .seq items n, o⟩ ∧ (items.map reRawOf).map (·.toNat) = C1 := ⟨_, _, _, _, by k_is, by decide +kernel⟩
  obtain ⟨o, fs, h1, h2, h3, h4⟩ := e1
  obtain ⟨items, n, d, o2, h5, h6⟩ := e2
  exact ⟨_, _, 77, _, _, _, X _ _ h1, rfl, rfl, rfl, h2, h3, h4, X _ _ h5, rfl, h6⟩
theorem pat2 {w : World} {h : Heap} (X : (KF w).In h) : Pat h 83 C2 := by
  have e1 : ∃ o fs, (MineHead.heapK w.params).lookup 83 = some ⟨.type "re.Pattern", none, .fields fs, o⟩ ∧ reRawNat (fs.getD 6 .none) = 0 ∧ reRawNat (fs.getD 2 .none) = 0 ∧ fs.getD 5 .none = .ref 82 := ⟨_, _, by k_is, rfl, rfl, rfl⟩
  have e2 : ∃ items n d o, (MineHead.heapK w.params).lookup 82 = some ⟨.type "tuple", d, .seq items n, o⟩ ∧ (items.map reRawOf).map (·.toNat) = C2 := ⟨_, _, _, _, by k_is, by decide +kernel⟩
  obtain ⟨o, fs, h1, h2, h3, h4⟩ := e1
  obtain ⟨items, n, d, o2, h5, h6⟩ := e2
  exact ⟨_, _, 82, _, _, _, X _ _ h1, rfl, rfl, rfl, h2, h3, h4, X _ _ h5, rfl, h6⟩

theorem Ev.subM {w : World} {k : Nat} {ρ : List (Str × Sl)} {x : Str} {p apos pos : Pos} {e1 e2 : Expr} {f : Fl} {pa : Addr} {C : Array Nat} {T rep out : List Nat} {hit : Nat → Bool} {len : Nat → Nat} (hx : Has x (.glob (.ref pa)) ρ) (hp : ∀ h, (KF w).In h → Pat h pa C)
    (h1 : EvL w k ρ [e1, e2] [.str (S rep), .str (S T)] f) (hT : T.length ≤ 100000) (hrep : rep.length ≤ 2) (hb : (S rep).cps.contains 92 = false)
    (hlen : ∀ j, j < T.length → 1 ≤ len j ∧ j + len j ≤ T.length)
    (hsearch : ∀ d must, d ≤ T.length → ∃ mf, Ends (Sre.forSearch C T.toArray 0 d T.length must) mf ∧ Res hit T.length d len mf) (hr : SubR hit len rep T 0 out) (hline : (apos.endLine == pos.line) = true)
    (he : ∀ env, starEach [e1, e2] env = (false, eval e1 env) :: starEach [e2] env) (hpp : ∀ env, (backTo pos (starEach [e2] env)).any (·.1) = false)
    (hfew : ∀ env, ((backTo pos (starEach [e1, e2] env)).all (fun x => !x.1) && (backToKw pos (keywordEach [] env)).all (fun x => x.1.isSome)
      && decide ([e1, e2].length + ([] : List Keyword).length + (if ([] : List Keyword).isEmpty then 0 else 1) < 30)) = true) :
    Ev w k ρ (.Call (.Attribute (.Name x p) (Str.ofString "sub") apos) [e1, e2] [] pos) (.str (S out)) .fr := by
  intro A c env s rm es tb
  refine Ys.of tb fun Q E q => ?_
  refine wpAny_Call_method (T := "re.Pattern") (id := "re.Pattern.sub") rfl (hfew env) hline pa_pat sub_slot sub_type (name_of (es.vars _ _ hx.mem) ?_ (es.dbg hx.mem))
  have pp := hp _ es.wd.X
  obtain ⟨o, fs, ca, oc, items, n, g1, g2, g3, _⟩ := pp.ex
  refine ⟨⟨o, g1, g2⟩, fun a ha => ?_, ?_⟩
  · cases ha; exact ⟨o, g1, g3⟩
  refine callWith_L (P := fun h => Ext s.heap h ∧ Wd w h) (fun h x => keep_builtin h x.2) (h1 rm es tb fun vs h' tk e b r => ⟨⟨e, es.wd.keeps e⟩, ?_⟩) (he env) (hpp env)
  obtain ⟨v1, v2, rfl, r1, r2⟩ := r.two_inv
  obtain ⟨t1, rfl⟩ := r1.str_inv
  obtain ⟨t2, rfl⟩ := r2.str_inv
  exact sub_ok (s := { s with heap := h', toks := tk }) (pp.keeps e) hT hrep hb hlen hsearch hr fun tk2 h2 k2 e2 => q _ h2 k2 (e.trans e2) (.str _ _)

theorem quote_fn {w : World} {U mid out : List Nat} (hT : U.length ≤ 30000) (hm : mid.length ≤ 100000) (h2 : SubR (hit2 U.toArray) (nlen U.toArray U.length) [13, 10] U 0 mid) (h1 : SubR (hit1 mid.toArray) (fun _ => 1) [46, 46] mid 0 out) : Fn w 1 (.ref 90) [.str (S U)] (.str (S out)) := by
  refine fn_def (ps := [Str.ofString "data"]) (ls := []) (gs := [(Str.ofString "_twin_re_1", .ref 78), (Str.ofString "_twin_re_2", .ref 83), (Str.ofString "CRLF", .str (Str.ofString "\r\n") 395)]) (by k_is) (by k_is) (by k_is) ?_ (by decide) (by decide +kernel) (by decide +kernel) ?_ (by decide +kernel) (by decide +kernel) rfl ?_
  · exact fun s => len1 fun a => BindsTo.of_eq rfl
  · intro g hg
    rcases List.mem_cons.mp hg with rfl | hg
    · exact ⟨rfl, .inl (by k_is)⟩
    rcases List.mem_cons.mp hg with rfl | hg
    · exact ⟨rfl, .inl (by k_is)⟩
    rw [List.mem_singleton.mp hg]
    exact ⟨rfl, .inl (by k_is)⟩
  · show Ex w 0 [(Str.ofString "data", .val (.str (S U))), (Str.ofString "_twin_re_1", .glob (.ref 78)), (Str.ofString "_twin_re_2", .glob (.ref 83)), (Str.ofString "CRLF", .glob (.str (Str.ofString "\r\n") 395))] _ _
    have crlf : ∀ {p : Pos} {ρ : List (Str × Sl)}, Has (Str.ofString "CRLF") (.glob (.str (Str.ofString "\r\n") 395)) ρ → Ev w 0 ρ (.Name (Str.ofString "CRLF") p) (.str (S [13, 10])) .fr := fun h => T.ev (T.gstr h) (by rw [lit_rn])
    refine Ex.cons (T.ret (Ev.subM (by tb_rel) (fun h X => pat1 X) (T.arg (T.lit lit_dots) (T.arg (Ev.subM (by tb_rel) (fun h X => pat2 X) (T.arg (crlf (by tb_rel)) (T.arg (T.nS (by tb_rel)) EvL.nil fun _ => rfl) fun _ => rfl) (by omega) (by decide) (by decide +kernel) (fun j hj => ?_) (fun d must hd => search2 _ must hd) h2 (by decide) (fun _ => rfl) (fun _ => rfl) (fun _ => rfl)) EvL.nil fun _ => rfl) fun _ => rfl)
      hm (by decide) (by decide +kernel) (fun j hj => by omega) (fun d must hd => search1 _ must hd (by omega)) h1 (by decide) (fun _ => rfl) (fun _ => rfl) (fun _ => rfl)) ?_)
    · unfold nlen
      split
      · rename_i h
        simp only [Bool.and_eq_true, decide_eq_true_eq] at h
        omega
      · omega
    · rfl
end PartR9
section PartP1
section
variable {hit : Nat → Bool} {len : Nat → Nat} {rep T : List Nat} {d : Nat} {out : List Nat}
theorem SubR.stop (h : T.length ≤ d) : SubR hit len rep T d [] := by
  have := SubR.fin (hit := hit) (len := len) (rep := rep) (T := T) (d := d) (fun i h1 h2 => by omega)
  rwa [List.drop_eq_nil_of_le h] at this
theorem SubR.at' (hd : d < T.length) (hh : hit d = true) (h : SubR hit len rep T (d + len d) out) : SubR hit len rep T d (rep ++ out) := by
  have := SubR.hit (Nat.le_refl d) hd hh (fun i h1 h2 => by omega) h
  rwa [Nat.sub_self, List.take_zero, List.nil_append] at this
theorem SubR.skip {c : Nat} {r : List Nat} (e : T.drop d = c :: r) (hh : hit d = false) (h : SubR hit len rep T (d + 1) out) : SubR hit len rep T d (c :: out) := by
  have hd : d < T.length := by
    rcases Nat.lt_or_ge d T.length with q | q
    · exact q
    · rw [List.drop_eq_nil_of_le q] at e; cases e
  have er : T.drop (d + 1) = r := by rw [← List.drop_drop, e]; rfl
  cases h with
  | fin hn =>
    rw [er, ← e]
    refine .fin fun i h1 h2 => ?_
    rcases Nat.eq_or_lt_of_le h1 with rfl | h1
    · exact hh
    · exact hn i h1 h2
  | @hit _ j out h1 h2 h3 h4 h5 =>
    rw [er]
    have : c :: (r.take (j - (d + 1)) ++ (rep ++ out)) = (T.drop d).take (j - d) ++ (rep ++ out) := by
      rw [e, show j - d = (j - (d + 1)) + 1 by omega]; rfl
    rw [this]
    refine .hit (by omega) h2 h3 (fun i a b => ?_) h5
    rcases Nat.eq_or_lt_of_le a with rfl | a
    · exact hh
    · exact h4 i a b
end

theorem getD_arr (T : List Nat) (i : Nat) : T.toArray.getD i 0 = T.getD i 0 := by
  simp [Array.getD, List.getD]
  split <;> simp_all
theorem getD_mid (a : List Nat) (c : Nat) (r : List Nat) : (a ++ c :: r).getD a.length 0 = c := by
  rw [List.getD_eq_getElem?_getD, List.getElem?_append_right (Nat.le_refl _), Nat.sub_self]; rfl
theorem getD_mid1 (a : List Nat) (c e : Nat) (r : List Nat) : (a ++ c :: e :: r).getD (a.length + 1) 0 = e := by
  rw [List.getD_eq_getElem?_getD, List.getElem?_append_right (by omega), show a.length + 1 - a.length = 1 by omega]; rfl

/-- line ends made whole -/
def norm : List Nat → List Nat
  | [] => []
  | [c] => if c = 10 ∨ c = 13 then [13, 10] else [c]
  | c :: e :: r => if c = 13 ∧ e = 10 then 13 :: 10 :: norm r else if c = 10 ∨ c = 13 then 13 :: 10 :: norm (e :: r) else c :: norm (e :: r)

theorem sub_norm : ∀ (n : Nat) (l a : List Nat), l.length ≤ n → SubR (hit2 (a ++ l).toArray) (nlen (a ++ l).toArray (a ++ l).length) [13, 10] (a ++ l) a.length (norm l)
  | _, [], a, _ => .stop (by simp)
  | 0, _ :: _, _, h => by simp at h
  | n + 1, [c], a, h => by
    have hd : (a ++ [c]).drop a.length = [c] := by simp
    have hg : (a ++ [c]).toArray.getD a.length 0 = c := by rw [getD_arr, getD_mid]
    unfold norm
    have hs : ∀ m, SubR (hit2 (a ++ [c]).toArray) (nlen (a ++ [c]).toArray (a ++ [c]).length) [13, 10] (a ++ [c]) (a.length + (m + 1)) [] := fun m => .stop (by rw [List.length_append, List.length_singleton]; omega)
    by_cases hc : c = 10 ∨ c = 13
    · rw [if_pos hc]
      have hl : nlen (a ++ [c]).toArray (a ++ [c]).length a.length = 1 := by
        unfold nlen
        rw [if_neg]
        intro q
        simp at q
      have := SubR.at' (hit := hit2 (a ++ [c]).toArray) (len := nlen (a ++ [c]).toArray (a ++ [c]).length) (rep := [13, 10]) (T := a ++ [c]) (d := a.length) (by simp) (by unfold hit2; rw [hg]; rcases hc with rfl | rfl <;> rfl) (by rw [hl]; exact hs 0)
      exact this
    · rw [if_neg hc]
      refine .skip hd ?_ (hs 0)
      unfold hit2; rw [hg, Bool.or_eq_false_iff, beq_eq_false_iff_ne, beq_eq_false_iff_ne]
      exact ⟨fun q => hc (.inl q), fun q => hc (.inr q)⟩
  | n + 1, c :: e :: r, a, h => by
    have hd : (a ++ c :: e :: r).drop a.length = c :: e :: r := by simp
    have hg : (a ++ c :: e :: r).toArray.getD a.length 0 = c := by rw [getD_arr, getD_mid]
    have hg1 : (a ++ c :: e :: r).toArray.getD (a.length + 1) 0 = e := by rw [getD_arr, getD_mid1]
    have hlt : a.length < (a ++ c :: e :: r).length := by simp
    have hl1 : a.length + 1 < (a ++ c :: e :: r).length := by simp
    have ih1 := sub_norm n (e :: r) (a ++ [c]) (by simp at h ⊢; omega)
    rw [show (a ++ [c]).length = a.length + 1 by simp, List.append_assoc, List.singleton_append] at ih1
    unfold norm
    by_cases h2 : c = 13 ∧ e = 10
    · rw [if_pos h2]
      have ih2 := sub_norm n r (a ++ [c, e]) (by simp at h ⊢; omega)
      rw [show (a ++ [c, e]).length = a.length + 2 by simp, List.append_assoc] at ih2
      have hl : nlen (a ++ c :: e :: r).toArray (a ++ c :: e :: r).length a.length = 2 := by
        unfold nlen
        rw [hg, hg1, decide_eq_true hl1, h2.1, h2.2]; rfl
      refine SubR.at' (rep := [13, 10]) hlt (by unfold hit2; rw [hg, h2.1]; rfl) ?_
      rw [hl]
      exact ih2
    rw [if_neg h2]
    by_cases hc : c = 10 ∨ c = 13
    · rw [if_pos hc]
      have hl : nlen (a ++ c :: e :: r).toArray (a ++ c :: e :: r).length a.length = 1 := by
        unfold nlen
        rw [if_neg]
        intro q
        rw [hg, hg1] at q
        simp only [Bool.and_eq_true, decide_eq_true_eq, beq_iff_eq] at q
        exact h2 ⟨q.1.1, q.2⟩
      refine SubR.at' (rep := [13, 10]) hlt (by unfold hit2; rw [hg]; rcases hc with rfl | rfl <;> rfl) ?_
      rw [hl]
      exact ih1
    · rw [if_neg hc]
      refine .skip hd ?_ ih1
      unfold hit2; rw [hg, Bool.or_eq_false_iff, beq_eq_false_iff_ne, beq_eq_false_iff_ne]
      exact ⟨fun q => hc (.inl q), fun q => hc (.inr q)⟩

/-- dots at the lines' heads doubled -/
def dotl : Bool → List Nat → List Nat
  | _, [] => []
  | b, c :: r => (if b = true ∧ c = 46 then [46, 46] else [c]) ++ dotl (c == 10) r
theorem sub_dot : ∀ (l a : List Nat), SubR (hit1 (a ++ l).toArray) (fun _ => 1) [46, 46] (a ++ l) a.length (dotl (a.length == 0 || (a ++ l).toArray.getD (a.length - 1) 0 == 10) l)
  | [], a => .stop (by simp)
  | c :: r, a => by
    have hd : (a ++ c :: r).drop a.length = c :: r := by simp
    have hg : (a ++ c :: r).toArray.getD a.length 0 = c := by rw [getD_arr, getD_mid]
    have ih := sub_dot r (a ++ [c])
    rw [show (a ++ [c]).length = a.length + 1 by simp, List.append_assoc, List.singleton_append] at ih
    have e1 : (a.length + 1 == 0) = false := by rw [beq_eq_false_iff_ne]; omega
    rw [e1, Bool.false_or, Nat.add_sub_cancel, hg] at ih
    unfold dotl
    by_cases hh : (a.length == 0 || (a ++ c :: r).toArray.getD (a.length - 1) 0 == 10) = true ∧ c = 46
    · rw [if_pos hh]
      refine SubR.at' (rep := [46, 46]) (by simp) ?_ ih
      unfold hit1; rw [hh.1, hg, hh.2]; rfl
    · rw [if_neg hh]
      refine .skip hd ?_ ih
      unfold hit1
      rw [hg]
      cases hb : (a.length == 0 || (a ++ c :: r).toArray.getD (a.length - 1) 0 == 10) with
      | false => rfl
      | true =>
        rw [Bool.true_and, beq_eq_false_iff_ne]
        exact fun q => hh ⟨hb, q⟩
theorem sub_norm0 (T : List Nat) : SubR (hit2 T.toArray) (nlen T.toArray T.length) [13, 10] T 0 (norm T) := sub_norm T.length T [] (Nat.le_refl _)
theorem sub_dot0 (T : List Nat) : SubR (hit1 T.toArray) (fun _ => 1) [46, 46] T 0 (dotl true T) := sub_dot T []
end PartP1
section PartP2
def crlf (ls : List (List Nat)) : List Nat := (ls.map (· ++ [13, 10])).flatten
def okL (l : List Nat) : Prop := ∀ x ∈ l, x ≠ 10 ∧ x ≠ 13
def dot1 : List Nat → List Nat
  | [] => []
  | c :: r => if c = 46 then 46 :: 46 :: r else c :: r
def sepF (i : Int) : List Nat := if i % 3 = 0 then [10] else if i % 3 = 1 then [13] else [13, 10]
def mix : Int → List (List Nat) → List Nat
  | _, [] => []
  | v, l :: ls => l ++ (sepF v ++ mix (v + 1) ls)
def tl : Int → List (List Nat) → List Nat
  | _, [] => []
  | v, r :: rs => sepF v ++ (r ++ tl (v + 1) rs)

theorem dotl_cons (b : Bool) (c : Nat) (r : List Nat) : dotl b (c :: r) = (if b = true ∧ c = 46 then [46, 46] else [c]) ++ dotl (c == 10) r := rfl
theorem dot1_cons (c : Nat) (r : List Nat) : dot1 (c :: r) = if c = 46 then 46 :: 46 :: r else c :: r := rfl
theorem norm_cons {c : Nat} {r : List Nat} (h1 : c ≠ 10) (h2 : c ≠ 13) : norm (c :: r) = c :: norm r := by
  cases r with
  | nil => simp [norm, h1, h2]
  | cons e r => simp [norm, h1, h2]
theorem norm_line : ∀ {l r : List Nat}, okL l → norm (l ++ r) = l ++ norm r
  | [], _, _ => rfl
  | c :: l, r, h => by
    have hc := h c (.head _)
    rw [List.cons_append, norm_cons hc.1 hc.2, norm_line fun x hx => h x (.tail _ hx)]; rfl
theorem norm_10 (r : List Nat) : norm (10 :: r) = 13 :: 10 :: norm r := by
  cases r with
  | nil => rfl
  | cons e r => simp [norm]
theorem norm_1310 (r : List Nat) : norm (13 :: 10 :: r) = 13 :: 10 :: norm r := by simp [norm]
theorem norm_13 {r : List Nat} (h : r.head? ≠ some 10) : norm (13 :: r) = 13 :: 10 :: norm r := by
  cases r with
  | nil => rfl
  | cons e r =>
    have : e ≠ 10 := fun q => h (by rw [q]; rfl)
    simp [norm, this]
theorem mix_head {v : Int} (hv : v % 3 = 2) : ∀ {ls : List (List Nat)}, (∀ l ∈ ls, okL l) → (mix v ls).head? ≠ some 10
  | [], _ => by simp [mix]
  | [] :: ls, _ => by
    have : sepF v = [13, 10] := by unfold sepF; rw [if_neg (by omega), if_neg (by omega)]
    simp [mix, this]
  | (c :: l) :: ls, h => by
    have := (h _ (.head _)) c (.head _)
    simp [mix, this.1]
theorem norm_mix : ∀ {ls : List (List Nat)} {v : Int}, (∀ l ∈ ls, okL l) → norm (mix v ls) = crlf ls
  | [], _, _ => rfl
  | l :: ls, v, h => by
    have ih := norm_mix (ls := ls) (v := v + 1) fun x hx => h x (.tail _ hx)
    have e : norm (sepF v ++ mix (v + 1) ls) = 13 :: 10 :: crlf ls := by
      unfold sepF
      split
      · show norm (10 :: mix (v + 1) ls) = _
        rw [norm_10, ih]
      · split
        · show norm (13 :: mix (v + 1) ls) = _
          rw [norm_13 (mix_head (by omega) fun x hx => h x (.tail _ hx)), ih]
        · show norm (13 :: 10 :: mix (v + 1) ls) = _
          rw [norm_1310, ih]
    show norm (l ++ (sepF v ++ mix (v + 1) ls)) = _
    rw [norm_line (h l (.head _)), e]
    simp [crlf]
theorem norm_crlf : ∀ {ls : List (List Nat)}, (∀ l ∈ ls, okL l) → norm (crlf ls) = crlf ls
  | [], _ => rfl
  | l :: ls, h => by
    have ih := norm_crlf (ls := ls) fun x hx => h x (.tail _ hx)
    have e : crlf (l :: ls) = l ++ (13 :: 10 :: crlf ls) := by simp [crlf]
    rw [e, norm_line (h l (.head _)), norm_1310, ih]
theorem dotl_line : ∀ {l r : List Nat}, okL l → dotl false (l ++ (13 :: 10 :: r)) = l ++ (13 :: 10 :: dotl true r)
  | [], r, _ => rfl
  | c :: l, r, h => by
    have hc : (c == 10) = false := by rw [beq_eq_false_iff_ne]; exact (h c (.head _)).1
    have ih := dotl_line (l := l) (r := r) fun x hx => h x (.tail _ hx)
    rw [List.cons_append, dotl_cons, hc, ih]; rfl
theorem dotl_crlf : ∀ {ls : List (List Nat)}, (∀ l ∈ ls, okL l) → dotl true (crlf ls) = crlf (ls.map dot1)
  | [], _ => rfl
  | l :: ls, h => by
    have ih := dotl_crlf (ls := ls) fun x hx => h x (.tail _ hx)
    have e : ∀ (l : List Nat) ls, crlf (l :: ls) = l ++ (13 :: 10 :: crlf ls) := fun l ls => by simp [crlf]
    rw [List.map_cons, e, e]
    cases l with
    | nil =>
      show dotl true (13 :: 10 :: crlf ls) = _
      rw [show dotl true (13 :: 10 :: crlf ls) = 13 :: 10 :: dotl true (crlf ls) from rfl, ih]; rfl
    | cons c l =>
      have hc : (c == 10) = false := by rw [beq_eq_false_iff_ne]; exact (h _ (.head _) c (.head _)).1
      have hl : okL l := fun x hx => h _ (.head _) x (.tail _ hx)
      rw [List.cons_append, dotl_cons, hc, dotl_line hl, ih, dot1_cons]
      by_cases h46 : c = 46
      · rw [if_pos ⟨rfl, h46⟩, if_pos h46]; rfl
      · rw [if_neg (fun q => h46 q.2), if_neg h46]; rfl
theorem okL_dot1 {l : List Nat} (h : okL l) : okL (dot1 l) := by
  cases l with
  | nil => exact h
  | cons c r =>
    rw [dot1_cons]
    split
    · rename_i hc
      intro x hx
      rcases List.mem_cons.mp hx with rfl | hx
      · decide
      · rw [← hc] at hx; exact h x hx
    · exact h
/-- one quoting -/
def quo (T : List Nat) : List Nat := dotl true (norm T)
theorem quo_mix {ls : List (List Nat)} {v : Int} (h : ∀ l ∈ ls, okL l) : quo (mix v ls) = crlf (ls.map dot1) := by unfold quo; rw [norm_mix h, dotl_crlf h]
theorem quo_crlf {ls : List (List Nat)} (h : ∀ l ∈ ls, okL l) : quo (crlf ls) = crlf (ls.map dot1) := by unfold quo; rw [norm_crlf h, dotl_crlf h]
def dotN1 : Nat → List Nat → List Nat
  | 0, l => l
  | n + 1, l => dot1 (dotN1 n l)
theorem okL_dotN {l : List Nat} (h : okL l) : ∀ n, okL (dotN1 n l)
  | 0 => h
  | n + 1 => okL_dot1 (okL_dotN h n)
def quoN : Nat → List Nat → List Nat
  | 0, T => T
  | n + 1, T => quo (quoN n T)
theorem quoN_mix {ls : List (List Nat)} {v : Int} (h : ∀ l ∈ ls, okL l) : ∀ n, quoN (n + 1) (mix v ls) = crlf (ls.map (dotN1 (n + 1)))
  | 0 => quo_mix h
  | n + 1 => by
    show quo (quoN (n + 1) (mix v ls)) = _
    rw [quoN_mix h n, quo_crlf]
    · rw [List.map_map]; rfl
    · intro l hl
      obtain ⟨x, hx, rfl⟩ := List.mem_map.mp hl
      exact okL_dotN (h x hx) _
theorem dotN_nil : ∀ n, dotN1 n [] = []
  | 0 => rfl
  | n + 1 => by show dot1 (dotN1 n []) = _; rw [dotN_nil n]; rfl
theorem dotN_dot (r : List Nat) : ∀ n, dotN1 n (46 :: r) = List.replicate n 46 ++ 46 :: r
  | 0 => rfl
  | n + 1 => by
    show dot1 (dotN1 n (46 :: r)) = _
    rw [dotN_dot r n]
    cases n <;> rfl
theorem dotN_other {c : Nat} {r : List Nat} (h : c ≠ 46) : ∀ n, dotN1 n (c :: r) = c :: r
  | 0 => rfl
  | n + 1 => by
    show dot1 (dotN1 n (c :: r)) = _
    rw [dotN_other h n, dot1_cons, if_neg h]
theorem tl_mix : ∀ (rows : List (List Nat)) (v : Int), tl v rows ++ sepF (v + rows.length) = sepF v ++ mix (v + 1) rows
  | [], v => by simp [tl, mix]
  | r :: rs, v => by
    have ih := tl_mix rs (v + 1)
    have e : v + ((r :: rs).length : Int) = v + 1 + (rs.length : Int) := by simp; omega
    rw [e]
    show (sepF v ++ (r ++ tl (v + 1) rs)) ++ sepF (v + 1 + rs.length) = sepF v ++ (r ++ (sepF (v + 1) ++ mix (v + 1 + 1) rs))
    rw [List.append_assoc, List.append_assoc, ih]
theorem tl_snoc : ∀ (rows : List (List Nat)) (r : List Nat) (v : Int), tl v (rows ++ [r]) = tl v rows ++ (sepF (v + rows.length) ++ r)
  | [], r, v => by simp [tl]
  | a :: rs, r, v => by
    have ih := tl_snoc rs r (v + 1)
    have e : v + ((a :: rs).length : Int) = v + 1 + (rs.length : Int) := by simp; omega
    rw [e]
    show sepF v ++ (a ++ tl (v + 1) (rs ++ [r])) = (sepF v ++ (a ++ tl (v + 1) rs)) ++ _
    rw [ih]; simp
/-- the whole text before the first quoting -/
theorem text_mix (rows : List (List Nat)) (v : Int) : ([46] ++ sepF v ++ tl (v + 1) rows) ++ sepF (v + 1 + rows.length) = mix v ([46] :: [] :: rows) := by
  rw [List.append_assoc, tl_mix]
  show _ = [46] ++ (sepF v ++ ([] ++ (sepF (v + 1) ++ mix (v + 1 + 1) rows)))
  simp
theorem norm_len : ∀ (n : Nat) (T : List Nat), T.length ≤ n → (norm T).length ≤ 2 * T.length
  | _, [], _ => Nat.le_refl _
  | 0, _ :: _, h => by simp at h
  | n + 1, [c], _ => by unfold norm; split <;> simp
  | n + 1, c :: e :: r, h => by
    have h1 := norm_len n (e :: r) (by simp at h ⊢; omega)
    have h2 := norm_len n r (by simp at h ⊢; omega)
    unfold norm
    split
    · simp; omega
    · split
      · simp at h1 ⊢; omega
      · simp at h1 ⊢; omega
theorem joinL_crlf (ls : List (List Nat)) : joinL [13, 10] (ls ++ [[]]) = crlf ls := by
  cases ls with
  | nil => rfl
  | cons a r =>
    have : ∀ r : List (List Nat), ((r ++ [[]]).map ([13, 10] ++ ·)).flatten = [13, 10] ++ crlf r := by
      intro r
      induction r with
      | nil => rfl
      | cons b r ih =>
        rw [List.cons_append, List.map_cons, List.flatten_cons, ih]
        simp [crlf]
    show a ++ ((r ++ [[]]).map ([13, 10] ++ ·)).flatten = _
    rw [this]
    simp [crlf]
end PartP2
section PartP3
open PySem.StrLaws PySem.Builtin PySem.Builtin.Str

theorem S_list (l : List Nat) : (S l).cps.toList = l := by simp [S]
theorem at_iff {T : List Nat} {k : Nat} : At (S T) (S [13, 10]) (S T).length k ↔ (T.drop k).take 2 = [13, 10] := by
  unfold At
  rw [subAt_eq, S_list, S_list, S_len, S_len]
  show k + 2 ≤ T.length ∧ ((T.drop k).take 2 == [13, 10]) = true ↔ _
  rw [beq_iff_eq]
  constructor
  · exact fun h => h.2
  · intro h
    refine ⟨?_, h⟩
    have := congrArg List.length h
    simp at this
    omega
theorem sub_S (T : List Nat) (i j : Nat) : strSub (S T) i j = S ((T.drop i).take (j - i)) := by
  apply Str.ext'
  apply Array.toList_inj.mp
  rw [strSub_toList, S_list, S_list]

theorem parts_crlf : ∀ (ls : List (List Nat)) (pre : List Nat) (cuts : List Nat) (f : Nat), (∀ l ∈ ls, okL l) → ChainG (S (pre ++ crlf ls)) (S [13, 10]) (S (pre ++ crlf ls)).length pre.length cuts f → (∀ k, f ≤ k → ¬ At (S (pre ++ crlf ls)) (S [13, 10]) (S (pre ++ crlf ls)).length k) →
    partsFrom (S (pre ++ crlf ls)) 2 pre.length cuts = (ls ++ [[]]).map S
  | [], pre, [], f, _, _, _ => by
    show [strSub _ _ _] = _
    rw [sub_S]
    simp [crlf]
  | [], pre, c :: r, f, _, h, _ => by
    exfalso
    have h1 := h.1
    have h2 := h.2.1.1
    rw [S_len, S_len] at h2
    simp [crlf] at h2
    omega
  | l :: ls, pre, cuts, f, ok, h, hn => by
    have e : crlf (l :: ls) = l ++ (13 :: 10 :: crlf ls) := by simp [crlf]
    have hat : At (S (pre ++ crlf (l :: ls))) (S [13, 10]) (S (pre ++ crlf (l :: ls))).length (pre.length + l.length) := by
      rw [at_iff, e, ← List.append_assoc, List.drop_left' (by simp)]; rfl
    have hno : ∀ k, pre.length ≤ k → k < pre.length + l.length → ¬ At (S (pre ++ crlf (l :: ls))) (S [13, 10]) (S (pre ++ crlf (l :: ls))).length k := by
      intro k h1 h2 hA
      rw [at_iff, e] at hA
      obtain ⟨i, rfl⟩ : ∃ i, k = pre.length + i := ⟨k - pre.length, by omega⟩
      have hi : i < l.length := by omega
      rw [← List.drop_drop, List.drop_left' rfl, List.drop_append_of_le_length (by omega), List.drop_eq_getElem_cons hi] at hA
      have := (ok l (.head _)) l[i] (List.getElem_mem hi)
      exact this.2 (Option.some.inj (show some l[i] = some 13 from congrArg List.head? hA))
    cases cuts with
    | nil =>
      have : f = pre.length := h
      subst this
      exact absurd hat (hn _ (by omega))
    | cons c r =>
      obtain ⟨h1, h2, h3, h4⟩ := h
      have hc : c = pre.length + l.length := by
        rcases Nat.lt_trichotomy c (pre.length + l.length) with q | q | q
        · exact absurd h2 (hno c h1 q)
        · exact q
        · exact absurd hat (h3 _ (by omega) q)
      subst hc
      have e2 : pre ++ crlf (l :: ls) = (pre ++ l ++ [13, 10]) ++ crlf ls := by rw [e]; simp
      have el : (pre ++ l ++ [13, 10]).length = pre.length + l.length + 2 := by simp; omega
      have h4' : ChainG (S ((pre ++ l ++ [13, 10]) ++ crlf ls)) (S [13, 10]) (S ((pre ++ l ++ [13, 10]) ++ crlf ls)).length (pre ++ l ++ [13, 10]).length r f := by
        rw [el, ← e2]; exact h4
      have ih := parts_crlf ls (pre ++ l ++ [13, 10]) r f (fun x hx => ok x (.tail _ hx)) h4' (by rw [← e2]; exact hn)
      rw [el, ← e2] at ih
      show strSub _ _ _ :: partsFrom _ 2 (pre.length + l.length + 2) r = S l :: (ls ++ [[]]).map S
      rw [ih, sub_S]
      congr 2
      rw [List.drop_left' rfl, e, Nat.add_sub_cancel_left, List.take_left' rfl]

theorem split_crlf {ls : List (List Nat)} (ok : ∀ l ∈ ls, okL l) : partsBetween (S (crlf ls)) (occurrences (S (crlf ls)) (S [13, 10]) 0 (S (crlf ls)).length ((S (crlf ls)).length + 1)) (S [13, 10]).length = (ls ++ [[]]).map S := by
  obtain ⟨f, h1, h2⟩ := occ_tight (S (crlf ls)) (S [13, 10]) (by decide)
  rw [partsBetween_eq]
  exact parts_crlf ls [] _ f ok h1 h2
end PartP3
section PartM1
def HasTy (d : PyData) (T : String) : Prop := ∀ (s : Shared) (P : Addr → Prop) (v : Value), Rd s.heap P v d → s.TypeIs v T ∧ (∀ a, v = .ref a → ∃ ob, s.heap.get? a = some ob ∧ ob.dict = none)
theorem hasTy_str {x : Str} : HasTy (.str x) "str" := by
  intro s P v r
  obtain ⟨t, rfl⟩ := r.str_inv
  exact ⟨rfl, fun a e => nomatch e⟩
theorem hasTy_list {ds : List PyData} : HasTy (.list ds) "list" := by
  intro s P v r
  obtain ⟨a, vs, rfl, ⟨o, n, ho, hc, hd, _⟩, _⟩ := r.list_inv
  exact ⟨⟨o, ho, hc⟩, fun b e => by cases e; exact ⟨o, ho, hd⟩⟩

section
variable {w : World} {k : Nat} {ρ ρ' : List (Str × Sl)} {o e : Expr} {es : List Expr} {d d0 : PyData} {ds : List PyData} {f f0 : Fl} {name : Str} {T id : String} {apos pos : Pos}
theorem T.meth (ho : Ev w k ρ o d0 f0) (ht : HasTy d0 T) (pa : PlainAttrs T) (slot : Slot T name id) (hty : typeOf (.builtin id) = pure (.type "method_descriptor")) (ha : EvL w k ρ (e :: es) ds .an) (hf : Fn w k (.builtin id) (d0 :: ds) d)
    (hbase : ∀ env, attributeBase o name env (eval o env) = eval o env) (hline : (apos.endLine == pos.line) = true)
    (he : ∀ env, starEach (e :: es) env = (false, eval e env) :: starEach es env) (hpp : ∀ env, (backTo pos (starEach es env)).any (·.1) = false)
    (hfew : ∀ env, ((backTo pos (starEach (e :: es) env)).all (fun x => !x.1) && (backToKw pos (keywordEach [] env)).all (fun x => x.1.isSome)
      && decide ((e :: es).length + ([] : List Keyword).length + (if ([] : List Keyword).isEmpty then 0 else 1) < 30)) = true) :
    Ev w k ρ (.Call (.Attribute o name apos) (e :: es) [] pos) d .fr := by
  intro A c env s rm es' tb Q E q
  refine wpAny_Call_method (T := T) (id := id) (hbase env) (hfew env) hline pa slot hty (ho rm es' tb fun v0 h0 tk0 e0 b0 r0 => ?_)
  obtain ⟨t1, t2⟩ := ht { s with heap := h0, toks := tk0 } _ v0 r0
  refine ⟨t1, t2, ?_⟩
  refine callWith_L (P := fun h => Ext h0 h ∧ Wd w h) (fun h x => keep_builtin h x.2) (ha (s := { s with heap := h0, toks := tk0 }) rm (es'.keeps e0) b0 fun vs h' tk e1 b1 r1 => ⟨⟨e1, es'.wd.keeps (e0.trans e1)⟩, ?_⟩) (he env) (hpp env)
  refine asm (s := { s with heap := h', toks := tk }) b1 (hf.run (s := { s with heap := h', toks := tk }) (P := fun _ => True) rm (es'.wd.keeps (e0.trans e1)) b1 (.cons ((r0.keeps e1).mono fun _ _ => trivial) (r1.mono fun _ _ => trivial)) fun v h'' tk' e2 r2 b2 => ?_)
  exact q v h'' tk' ((e0.trans e1).trans e2) b2 (r2.mono fun a n => (e0.trans e1).none n)
end

theorem fn_join {w : World} {k : Nat} {g : List Nat} {ls : List (List Nat)} (hz : ls.flatten.length + ls.length * g.length ≤ 16777216) : Fn w k (.builtin "str.join") [.str (S g), .list (ls.map fun l => .str (S l))] (.str (S (joinL g ls))) where
  keep := keep_builtin
  run := by
    intro A s P vs rm wd tb r Q E q
    obtain ⟨v, u, rfl, r1, r2⟩ := r.two_inv
    obtain ⟨t, rfl⟩ := r1.str_inv
    obtain ⟨a, xs, rfl, hl, ra, _⟩ := r2.list_inv
    have e : (ls.map fun l => PyData.str (S l)) = (ls.map S).map .str := by rw [List.map_map]; rfl
    rw [e] at ra
    refine join_list hl.isList ra.strs (by rw [sum_len, List.length_map, S_len]; exact hz) fun t' k' => ?_
    rw [join_SG]
    exact q _ s.heap k' Ext.rfl (.str _ _)

theorem rd_strsFrom {h : Heap} {P : Addr → Prop} : ∀ (ps : List Str) (t : Nat), RdL h P (strsFrom t ps) (ps.map .str)
  | [], _ => .nil
  | p :: ps, t => .cons (.str p t) (rd_strsFrom ps (t + 1))
theorem kind_ge (x : Str) : 1 ≤ Builtin.Str.strKind x := by
  unfold Builtin.Str.strKind
  split
  · exact Nat.le_refl _
  · split <;> decide
theorem fn_split {w : World} {k : Nat} {ls : List (List Nat)} (ok : ∀ l ∈ ls, okL l) (hne : ls ≠ []) (hz : (crlf ls).length ≤ 1000000) (hn : ls.length ≤ 1000000) :
    Fn w k (.builtin "str.split") [.str (S (crlf ls)), .str (S [13, 10])] (.list ((ls ++ [[]]).map fun l => .str (S l))) where
  keep := keep_builtin
  run := by
    intro A s P vs rm wd tb r Q E q
    obtain ⟨v, u, rfl, r1, r2⟩ := r.two_inv
    obtain ⟨t, rfl⟩ := r1.str_inv
    obtain ⟨t2, rfl⟩ := r2.str_inv
    have hs := split_crlf ok
    have h2 : 2 ≤ (crlf ls).length := by
      cases ls with
      | nil => exact absurd rfl hne
      | cons a r => simp [crlf]; omega
    refine call_meets F.slot_str_split (typeIs_str s _ _) F.entry_str_split (F.args_str_split_2 _ _) (meets_str_split_sep _ _ _ _ ?_ ?_ ?_ ?_ ?_) ?_
    · rw [S_len, S_len, Bool.or_eq_false_iff]
      refine ⟨by simp; omega, ?_⟩
      have := kind_ge (S (crlf ls))
      have e : Builtin.Str.strKind (S [13, 10]) = 1 := by decide +kernel
      rw [e]
      simp; omega
    · rfl
    · cases ho : (Builtin.Str.occurrences (S (crlf ls)) (S [13, 10]) 0 (S (crlf ls)).length ((S (crlf ls)).length + 1)) with
      | cons _ _ => rfl
      | nil =>
        rw [ho] at hs
        have := congrArg List.length hs
        cases ls with
        | nil => exact absurd rfl hne
        | cons a r => simp [Builtin.Str.partsBetween] at this
    · rw [S_len, sizeLine_eq]; omega
    · rw [hs, sizeLine_eq]; simp; omega
    · rw [hs]
      have e : ((ls ++ [[]]).map fun l => PyData.str (S l)) = ((ls ++ [[]]).map S).map .str := by rw [List.map_map]; rfl
      show Q _ _
      rw [e] at q
      exact q _ _ _ ext_push (.list isList_push (by rw [List.toList_toArray]; exact rd_strsFrom _ _) push_free)

theorem isInt_cnt (i : Int) : ∀ {vs : List Value} {ns : List Int}, IntsAre vs ns → ((vs.countP (isInt i) : Nat) : Int) = cnt i ns
  | _, _, .nil => rfl
  | _, _, .cons n t r => by
    have ih := isInt_cnt i r
    unfold cnt at ih ⊢
    rw [List.countP_cons, List.countP_cons]
    have : isInt i (.int n t) = (n == i) := rfl
    rw [this]
    split <;> omega
theorem fn_count {w : World} {k : Nat} {ns : List Int} {i : Int} : Fn w k (.builtin "list.count") [.list (ns.map .int), .int i] (.int (cnt i ns)) where
  keep := keep_builtin
  run := by
    intro A s P vs rm wd tb r Q E q
    obtain ⟨v, u, rfl, r1, r2⟩ := r.two_inv
    obtain ⟨a, xs, rfl, hl, ra, _⟩ := r1.list_inv
    obtain ⟨t, rfl⟩ := r2.int_inv
    have hi := ra.ints
    obtain ⟨⟨cls, dd, data, sl⟩, n, ho, hc, hdd, hd⟩ := id hl
    simp only at hc hdd hd
    subst hc hdd hd
    refine call_meets F.slot_list_count hl.isList.typeIs F.entry_list_count (F.args_list_count_2 _ _) (SeqAt.list_countAt a xs n none sl (.int i t) (isInt i)) ⟨ho, fun y hy => ?_, ?_⟩
    · exact fun prog w R E' h => eq_isInt i t hi y (by simpa using hy) prog w _ R _ _ h
    · show Q _ _
      rw [isInt_cnt i hi]
      exact q _ s.heap _ Ext.rfl (.int _ _)
end PartM1
section PartM2
section
variable {w : World} {k k' : Nat} {ρ ρ' : List (Str × Sl)} {e x y c1 c2 c3 : Expr} {es : List Expr} {d d0 d1 d2 : PyData} {ds : List PyData} {f g f1 f2 : Fl} {P : Out → Prop} {v : Str} {p pos lp : Pos} {i j : Int}
theorem quo_fn {U : List Nat} (hT : U.length ≤ 30000) : Fn w 1 (.ref 90) [.str (S U)] (.str (S (quo U))) :=
  quote_fn hT (Nat.le_trans (norm_len _ _ (Nat.le_refl _)) (by omega)) (sub_norm0 U) (sub_dot0 (norm U))
/-- a sign between lines, by its turn -/
theorem T.sep {u : Int} (h1 : Ev w k ρ c1 (.str (S [10])) .fr) (h2 : Ev w k ρ c2 (.str (S [13])) .fr) (h3 : Ev w k ρ c3 (.str (S [13, 10])) .fr) (hi : Ev w k ρ y (.int (u % 3)) f) (hs : ∀ o i, subscripted y false o i = operate [o, i] (getItem o i))
    (he1 : ∀ env, starEach [c1, c2, c3] env = (false, eval c1 env) :: starEach [c2, c3] env) (he2 : ∀ env, starEach [c2, c3] env = (false, eval c2 env) :: starEach [c3] env) (he3 : ∀ env, starEach [c3] env = (false, eval c3 env) :: starEach [] env) :
    Ev w k ρ (.Subscript (.List [c1, c2, c3] lp) y pos) (.str (S (sepF u))) .fr := by
  refine Ev.itemA (d := .str (S (sepF u))) (Ev.list (T.argF h1 (T.argF h2 (T.argF h3 EvL.nil he3) he2) he1) (by simp)) hi (by omega) (by omega) ?_ rfl hs
  have : u % 3 = 0 ∨ u % 3 = 1 ∨ u % 3 = 2 := by omega
  unfold sepF
  rcases this with h | h | h <;> rw [h] <;> rfl
theorem T.appS {ls : List (List Nat)} {l : List Nat} {p1 apos cpos : Pos} (hm : Has v (.own (ls.map fun l => .str (S l))) ρ) (h : Ev w k ρ e (.str (S l)) .fr) (hz : ls.length ≤ 16777216) (hs : SetIn v (.own ((ls ++ [l]).map fun l => .str (S l))) ρ ρ') (hp : P (.nx ρ'))
    (hline : (apos.endLine == cpos.line) = true) (he : ∀ env, starEach [e] env = [(false, eval e env)]) : Ex1 w k ρ (.Expr (.Call (.Attribute (.Name v p1) "append" apos) [e] [] cpos) pos) P :=
  Ex1.append hm.mem h.toCl (by simpa using hz) (by rw [List.map_append] at hs; exact hs) hp hline he
theorem T.appLL {ls : List (List Int)} {l : List Int} {p1 apos cpos : Pos} (hm : Has v (.own (ls.map fun l => .list (l.map .int))) ρ) (h : Ev w k ρ e (.list (l.map .int)) .fr) (hz : ls.length ≤ 16777216) (hs : SetIn v (.own ((ls ++ [l]).map fun l => .list (l.map .int))) ρ ρ') (hp : P (.nx ρ'))
    (hline : (apos.endLine == cpos.line) = true) (he : ∀ env, starEach [e] env = [(false, eval e env)]) : Ex1 w k ρ (.Expr (.Call (.Attribute (.Name v p1) "append" apos) [e] [] cpos) pos) P :=
  Ex1.append hm.mem h.toCl (by simpa using hz) (by rw [List.map_append] at hs; exact hs) hp hline he
theorem T.ifTrue {t : Expr} (ht : Tr w k ρ t true) (h1 : Ev w k ρ x d f) : Ev w k ρ (.IfExp t x y pos) d f := by
  intro A c env s rm es tb Q E q
  refine IfExp_ (ht rm es tb fun h' tk e1 t1 => ?_)
  refine h1 (s := { s with heap := h', toks := tk }) rm (es.keeps e1) t1 fun v h'' tk' e2 t2 r => ?_
  exact q v h'' tk' (e1.trans e2) t2 (r.mono fun a n => Fl.mono e1 f a n)
theorem all_strs (ls : List (List Nat)) : (ls.map fun l => PyData.str (S l)).all atom = true := by simp [atom]
theorem o_addLS {a b : List (List Nat)} (h : a.length + b.length ≤ 16777216) : Op2 w k (binaryOp .Add) (.list (a.map fun l => .str (S l))) (.list (b.map fun l => .str (S l))) (.list ((a ++ b).map fun l => .str (S l))) := by
  rw [List.map_append]; exact op_addL (by simpa using h) (all_strs a) (all_strs b)
end
/-- a list made by turns -/
def mapW {α : Type} (g : Int → Nat → α) : Int → List Nat → List α
  | _, [] => []
  | v, m :: r => g v m :: mapW g (v + 1) r
theorem mapW_snoc {α : Type} (g : Int → Nat → α) : ∀ (l : List Nat) (v : Int) (m : Nat), mapW g v (l ++ [m]) = mapW g v l ++ [g (v + l.length) m]
  | [], v, m => by simp [mapW]
  | a :: l, v, m => by
    have ih := mapW_snoc g l (v + 1) m
    have e : v + ((a :: l).length : Int) = v + 1 + (l.length : Int) := by simp; omega
    rw [e]
    show g v a :: mapW g (v + 1) (l ++ [m]) = g v a :: (mapW g (v + 1) l ++ _)
    rw [ih]
theorem mapW_len {α : Type} (g : Int → Nat → α) : ∀ (l : List Nat) (v : Int), (mapW g v l).length = l.length
  | [], _ => rfl
  | _ :: l, v => by show (mapW g (v + 1) l).length + 1 = _; rw [mapW_len g l]; rfl
theorem mapW_get {α : Type} (g : Int → Nat → α) : ∀ (l : List Nat) (v : Int) (i : Nat), (mapW g v l)[i]? = (l[i]?).map (g (v + i))
  | [], _, i => by simp [mapW]
  | a :: l, v, 0 => by simp [mapW]
  | a :: l, v, i + 1 => by
    have ih := mapW_get g l (v + 1) i
    show (mapW g (v + 1) l)[i]? = _
    rw [ih, show v + ((i + 1 : Nat) : Int) = v + 1 + (i : Int) by omega]; rfl
theorem take_snoc {α : Type} {l : List α} {i : Nat} {m : α} (h : l[i]? = some m) : l.take (i + 1) = l.take i ++ [m] := by rw [List.take_add_one, h]; rfl
end PartM2
section PartM3
def dN (n f s m : Nat) : Nat := dotN n f m + (bif m % 2 == 1 then s else 0)
def rowT (n f : Nat) (v : Int) (m : Nat) : List Nat := rowL (dotN n f m) (m % 2 == 1) n v
def rowD (n f s : Nat) (v : Int) (m : Nat) : List Nat := rowL (dN n f s m) (m % 2 == 1) n v
def dueD (n f s : Nat) (v : Int) (m : Nat) : List Int := dueL (dN n f s m) (m % 2 == 1) n v
def belN (n f s m : Nat) : Int := -((((dN n f s m : Nat) : Int) + 2 ^ n - 1) / 2 ^ n)
abbrev intsN (ns : List Nat) : List Int := ns.map fun (m : Nat) => (m : Int)
abbrev gR : List (Str × Value) := [(Str.ofString "range", .type "range"), (Str.ofString "len", .builtin "len"), (Str.ofString "_law_row", .ref 135), (Str.ofString "_law_due", .ref 142), (Str.ofString "concat", .ref 66), (Str.ofString "_law_typed", .ref 128), (Str.ofString "quotedata", .ref 90), (Str.ofString "_law_kinds", .ref 149), (Str.ofString "_law_next", .ref 156), (Str.ofString "str", .type "str")]
abbrev RR (ns : List Nat) (f n s : Nat) (v : Int) (tx rw du be sk so sd to ki bo : Sl) : List (Str × Sl) :=
  [(Str.ofString "numbers", .val (.list ((intsN ns).map .int))), (Str.ofString "factor", .val (.int f)), (Str.ofString "shift", .val (.int n)), (Str.ofString "sent", .val (.int s)), (Str.ofString "way", .val (.int v)),
   (Str.ofString "text", tx), (Str.ofString "rows", rw), (Str.ofString "due", du), (Str.ofString "below", be), (Str.ofString "k", sk), (Str.ofString "odd", so), (Str.ofString "dots", sd), (Str.ofString "told", to), (Str.ofString "kinds", ki), (Str.ofString "both", bo),
   (Str.ofString "range", .glob (.type "range")), (Str.ofString "len", .glob (.builtin "len")), (Str.ofString "_law_row", .glob (.ref 135)), (Str.ofString "_law_due", .glob (.ref 142)), (Str.ofString "concat", .glob (.ref 66)), (Str.ofString "_law_typed", .glob (.ref 128)), (Str.ofString "quotedata", .glob (.ref 90)), (Str.ofString "_law_kinds", .glob (.ref 149)), (Str.ofString "_law_next", .glob (.ref 156)), (Str.ofString "str", .glob (.type "str"))]
abbrev oS (ls : List (List Nat)) : Sl := .own (ls.map fun l => .str (S l))
abbrev oLL (ls : List (List Int)) : Sl := .own (ls.map fun l => .list (l.map .int))
abbrev oI (ls : List Int) : Sl := .own (ls.map .int)
theorem rowL_len {d n : Nat} {odd : Bool} {v : Int} (hd : d ≤ 700) (hn : n ≤ 3) : (rowL d odd n v).length ≤ 720 := by
  have : 2 ^ n ≤ 8 := by
    match n, hn with
    | 0, _ => decide
    | 1, _ => decide
    | 2, _ => decide
    | 3, _ => decide
  unfold rowL sepL
  rw [List.length_append]
  cases odd <;> cases v % 2 == 0 <;> simp <;> omega
theorem tl_len {B : Nat} : ∀ {rows : List (List Nat)} {v : Int}, (∀ r ∈ rows, r.length ≤ B) → (tl v rows).length ≤ rows.length * (B + 2)
  | [], _, _ => by simp [tl]
  | r :: rs, v, h => by
    have ih := tl_len (rows := rs) (v := v + 1) fun x hx => h x (.tail _ hx)
    have h1 := h r (.head _)
    have h2 : (sepF v).length ≤ 2 := by unfold sepF; split; decide; split <;> decide
    show (sepF v ++ (r ++ tl (v + 1) rs)).length ≤ (rs.length + 1) * (B + 2)
    rw [List.length_append, List.length_append, Nat.succ_mul]
    omega
theorem mapW_mem {α : Type} {g : Int → Nat → α} {p : α → Prop} : ∀ {l : List Nat} {v : Int}, (∀ m ∈ l, ∀ u, p (g u m)) → ∀ x ∈ mapW g v l, p x
  | [], _, _, _, hx => nomatch hx
  | a :: l, v, h, x, hx => by
    rcases List.mem_cons.mp (show x ∈ g v a :: mapW g (v + 1) l from hx) with rfl | hx
    · exact h a (.head _) v
    · exact mapW_mem (fun m hm => h m (.tail _ hm)) x hx
end PartM3
section PartP4
theorem okL_rowL {d n : Nat} {odd : Bool} {v : Int} : okL (rowL d odd n v) := by
  intro x hx
  have : x = 46 ∨ x = 40 ∨ x = 41 ∨ x = 62 ∨ x = 47 := by
    unfold rowL sepL at hx
    revert hx
    cases odd <;> cases v % 2 == 0 <;> (intro hx; simp only [cond_false, cond_true, List.mem_append, List.mem_replicate, List.mem_cons, List.not_mem_nil, or_false] at hx; omega)
  omega
theorem dotN_rowT {n f s m : Nat} {u : Int} (h : 1 ≤ dotN n f m) : dotN1 s (rowT n f u m) = rowD n f s u m := by
  unfold rowT rowD dN
  cases hm : m % 2 == 1
  · simp only [cond_false, Nat.add_zero]
    unfold rowL
    simp only [cond_false, List.append_assoc, List.singleton_append]
    exact dotN_other (by decide) s
  · simp only [cond_true]
    unfold rowL
    simp only [cond_true]
    obtain ⟨d, hd⟩ : ∃ d, dotN n f m = d + 1 := ⟨dotN n f m - 1, by omega⟩
    rw [hd, List.replicate_succ, List.cons_append, dotN_dot]
    have : List.replicate (d + 1 + s) 46 = List.replicate s 46 ++ 46 :: List.replicate d 46 := by
      rw [show d + 1 + s = s + (d + 1) by omega, ← List.replicate_append_replicate, List.replicate_succ]
    rw [this, List.append_assoc, List.cons_append]
theorem lines_eq {n f s : Nat} : ∀ {ns : List Nat} {v : Int}, (∀ m ∈ ns, 1 ≤ dotN n f m) → (mapW (rowT n f) v ns).map (dotN1 s) = mapW (rowD n f s) v ns
  | [], _, _ => rfl
  | m :: r, v, h => by
    show dotN1 s (rowT n f v m) :: (mapW (rowT n f) (v + 1) r).map (dotN1 s) = rowD n f s v m :: mapW (rowD n f s) (v + 1) r
    rw [dotN_rowT (h m (.head _)), lines_eq fun x hx => h x (.tail _ hx)]
theorem lines_all {n f s : Nat} {ns : List Nat} {v : Int} (h : ∀ m ∈ ns, 1 ≤ dotN n f m) : ([46] :: [] :: mapW (rowT n f) v ns).map (dotN1 s) = [List.replicate (1 + s) 46, []] ++ mapW (rowD n f s) v ns := by
  rw [List.map_cons, List.map_cons, lines_eq h, dotN_nil, dotN_dot]
  have : List.replicate (1 + s) 46 = List.replicate s 46 ++ [46] := by rw [Nat.add_comm, List.replicate_succ']
  rw [this]; rfl
theorem okL_all {n f : Nat} {ns : List Nat} {v : Int} : ∀ l ∈ [46] :: [] :: mapW (rowT n f) v ns, okL l := by
  intro l hl
  rcases List.mem_cons.mp hl with rfl | hl
  · intro x hx
    rw [List.mem_singleton.mp hx]; decide
  rcases List.mem_cons.mp hl with rfl | hl
  · intro x hx; cases hx
  exact mapW_mem (p := okL) (fun m _ u => okL_rowL) l hl
theorem crlf_len {B : Nat} : ∀ {ls : List (List Nat)}, (∀ l ∈ ls, l.length ≤ B) → (crlf ls).length ≤ ls.length * (B + 2)
  | [], _ => by simp [crlf]
  | l :: ls, h => by
    have ih := crlf_len (ls := ls) fun x hx => h x (.tail _ hx)
    have h1 := h l (.head _)
    have e : crlf (l :: ls) = l ++ (13 :: 10 :: crlf ls) := by simp [crlf]
    rw [e, List.length_append, List.length_cons, List.length_cons, List.length_cons, Nat.succ_mul]
    omega
theorem dotN_len : ∀ (s : Nat) (l : List Nat), (dotN1 s l).length ≤ l.length + s
  | 0, _ => Nat.le_refl _
  | s + 1, l => by
    have ih := dotN_len s l
    have : ∀ x : List Nat, (dot1 x).length ≤ x.length + 1 := by
      intro x
      cases x with
      | nil => simp [dot1]
      | cons c r => rw [dot1_cons]; split <;> simp
    have h2 := this (dotN1 s l)
    show (dot1 (dotN1 s l)).length ≤ _
    omega
theorem quoN_len {ls : List (List Nat)} {v : Int} (ok : ∀ l ∈ ls, okL l) (hl : ls.length ≤ 7) (hb : ∀ l ∈ ls, l.length ≤ 720) (h0 : (mix v ls).length ≤ 7000) : ∀ s, s ≤ 20 → (quoN s (mix v ls)).length ≤ 30000
  | 0, _ => by show (mix v ls).length ≤ _; omega
  | s + 1, hs => by
    rw [quoN_mix ok s]
    have h1 := crlf_len (B := 740) (ls := ls.map (dotN1 (s + 1))) (by
      intro l hl
      obtain ⟨x, hx, rfl⟩ := List.mem_map.mp hl
      have := dotN_len (s + 1) x
      have := hb x hx
      omega)
    rw [List.length_map] at h1
    have : ls.length * (740 + 2) ≤ 7 * 742 := Nat.mul_le_mul hl (Nat.le_refl _)
    omega
theorem bel_eq (d n : Nat) : -(d : Int) / 2 ^ n = -(((d : Int) + 2 ^ n - 1) / 2 ^ n) := by
  have hp : (0 : Int) < 2 ^ n := by have : (0 : Nat) < 2 ^ n := Nat.two_pow_pos n; exact_mod_cast this
  generalize (2 : Int) ^ n = p at hp
  have h1 := Int.emod_add_mul_ediv (d : Int) p
  have h2 := Int.emod_nonneg (d : Int) (by omega : p ≠ 0)
  have h3 := Int.emod_lt_of_pos (d : Int) hp
  have e : (d : Int) = p * (d / p) + d % p := by omega
  rcases Int.lt_or_eq_of_le h2 with h4 | h4
  · have a : -(d : Int) / p = -(d / p) - 1 := by
      rw [show -(d : Int) = (p - d % p) + p * (-(d / p) - 1) by rw [Int.mul_sub, Int.mul_neg]; omega, Int.add_mul_ediv_left _ _ (by omega), Int.ediv_eq_zero_of_lt (by omega) (by omega)]; omega
    have b : ((d : Int) + p - 1) / p = d / p + 1 := by
      rw [show (d : Int) + p - 1 = (d % p - 1) + p * (d / p + 1) by rw [Int.mul_add]; omega, Int.add_mul_ediv_left _ _ (by omega), Int.ediv_eq_zero_of_lt (by omega) (by omega)]; omega
    omega
  · have a : -(d : Int) / p = -(d / p) := by
      rw [show -(d : Int) = 0 + p * (-(d / p)) by rw [Int.mul_neg]; omega, Int.add_mul_ediv_left _ _ (by omega)]; simp
    have b : ((d : Int) + p - 1) / p = d / p := by
      rw [show (d : Int) + p - 1 = (p - 1) + p * (d / p) by omega, Int.add_mul_ediv_left _ _ (by omega), Int.ediv_eq_zero_of_lt (by omega) (by omega)]; omega
    omega
end PartP4
section PartM4
local macro_rules | `(tactic| w_means) => `(tactic| first | with_reducible assumption | exact Fn.up (concat_fn (by tb_start)) (by decide) | exact Fn.up (by assumption) (by decide))

theorem intsN_get {ns : List Nat} {i m : Nat} (h : ns[i]? = some m) : (intsN ns).getD i 0 = m := by
  rw [List.getD_eq_getElem?_getD, List.getElem?_map, h]; rfl
theorem round_fn {w : World} {ns : List Nat} {f n s : Nat} {v : Int} (hl : ns.length ≤ 5) (n1 : 1 ≤ n) (n3 : n ≤ 3) (f1 : 1 ≤ f) (f2 : f ≤ 15) (hns : ∀ m ∈ ns, 1 ≤ m ∧ m ≤ 255 ∧ dN n f s m ≤ 700) (s1 : 1 ≤ s) (s2 : s ≤ 20) :
    Fn w 3 (.ref 163) [.list ((intsN ns).map .int), .int f, .int n, .int s, .int v] (.list ((ns.map fun m => ((dN n f s m : Nat) : Int) / 2 ^ n).map .int)) := by
  refine fn_def (ps := [Str.ofString "numbers", Str.ofString "factor", Str.ofString "shift", Str.ofString "sent", Str.ofString "way"])
    (ls := [Str.ofString "text", Str.ofString "rows", Str.ofString "due", Str.ofString "below", Str.ofString "k", Str.ofString "odd", Str.ofString "dots", Str.ofString "told", Str.ofString "kinds", Str.ofString "both"]) (gs := gR) (by k_is) (by k_is) (by k_is) ?_ (by decide) (by decide +kernel) (by decide +kernel) ?_ (by decide +kernel) (by decide +kernel) rfl ?_
  · exact fun s => len5 fun a b c d e => BindsTo.of_eq rfl
  · intro g hg
    simp only [gR, List.mem_cons, List.not_mem_nil, or_false] at hg
    rcases hg with rfl | rfl | rfl | rfl | rfl | rfl | rfl | rfl | rfl | rfl
    · exact ⟨rfl, .inr ⟨by k_is, by kernel_rfl, by decide⟩⟩
    · exact ⟨rfl, .inr ⟨by k_is, by kernel_rfl, by decide⟩⟩
    · exact ⟨rfl, .inl (by k_is)⟩
    · exact ⟨rfl, .inl (by k_is)⟩
    · exact ⟨rfl, .inl (by k_is)⟩
    · exact ⟨rfl, .inl (by k_is)⟩
    · exact ⟨rfl, .inl (by k_is)⟩
    · exact ⟨rfl, .inl (by k_is)⟩
    · exact ⟨rfl, .inl (by k_is)⟩
    · exact ⟨rfl, .inr ⟨by k_is, by kernel_rfl, by decide⟩⟩
  · show Ex w 2 (RR ns f n s v .free .free .free .free .free .free .free .free .free .free) _ _
    have sepE : ∀ {ρ : List (Str × Sl)} {y : Expr} {lp pos p1 p2 p3 : Pos} {a1 a2 a3 : Nat} {g : Fl} {u : Int}, Ev w 2 ρ y (.int (u % 3)) g → (∀ o i, subscripted y false o i = operate [o, i] (getItem o i)) →
        Ev w 2 ρ (.Subscript (.List [.Constant (.str (Str.ofString "\n")) a1 p1, .Constant (.str (Str.ofString "\r")) a2 p2, .Constant (.str (Str.ofString "\r\n")) a3 p3] lp) y pos) (.str (S (sepF u))) .fr :=
      fun hy hs => T.sep (T.lit lit_n) (T.lit lit_r) (T.lit lit_rn) hy hs (fun _ => rfl) (fun _ => rfl) (fun _ => rfl)
    refine Ex.cons (T.assign (d := .str (S ([46] ++ sepF v))) (T.bin (T.lit lit_dot) (sepE (by ktr_rel) (fun _ _ => rfl)) (o_addS (by unfold sepF; split; decide; split <;> decide))) (by ke_reads) ?_ (fun _ => rfl))
    refine Ex.cons (Ex1.assignOwn (ds := [List.replicate (1 + s) 46, []].map fun l => .str (S l)) (EvL.cons (Ev.toCl (T.ev (by ktr_rel) (by rw [show ((1 : Int) + (s : Int)).toNat = 1 + s by omega]))) (EvL.cons (Ev.toCl (T.lit lit_empty)) .nil fun _ => rfl) fun _ => rfl) (by simp) (by ke_reads) ?_)
    refine Ex.cons (Ex1.assignOwn (ds := ([] : List (List Int)).map fun l => .list (l.map .int)) .nil (by decide) (by ke_reads) ?_)
    refine Ex.cons (Ex1.assignOwn (ds := ([] : List Int).map .int) .nil (by decide) (by ke_reads) ?_)
    have hlenI : (intsN ns).length = ns.length := by simp
    have hlz : (intsN ns).length ≤ 16777216 := by omega
    refine Ex.cons (Ex1.for (It.range1 (n := ns.length) (Has.mem (by tb_rel)) (T.call (by tb_rel) (T.arg (T.nL (by tb_rel)) EvL.nil fun _ => rfl) (by have := fn_len (w := w) (k := 2) (ds := (intsN ns).map PyData.int) (by rw [List.length_map]; omega); rwa [List.length_map, hlenI] at this) (fun _ => rfl) (fun _ => rfl)) (by omega) (fun _ => rfl))
      (fun i ρ => ∃ tx rw du be sk so sd, tx = [46] ++ sepF v ++ tl (v + 1) (mapW (rowT n f) v (ns.take i)) ∧ rw = [List.replicate (1 + s) 46, []] ++ mapW (rowD n f s) v (ns.take i) ∧ du = mapW (dueD n f s) v (ns.take i) ∧ be = (ns.take i).map (belN n f s) ∧
        (∀ v, sk ≠ .glob v) ∧ (∀ v, so ≠ .glob v) ∧ (∀ v, sd ≠ .glob v) ∧ ρ = RR ns f n s v (.val (.str (S tx))) (oS rw) (oLL du) (oI be) sk so sd .free .free .free)
      ⟨_, _, _, _, .free, .free, .free, by simp [tl, mapW], rfl, rfl, rfl, (fun _ h => nomatch h), (fun _ h => nomatch h), (fun _ h => nomatch h), rfl⟩ ?_ ?_ (fun _ _ => rfl))
    · rintro i ρi d ⟨tx, rw', du, be, sk, so, sd, etx, erw, edu, ebe, hsk, hso, hsd, rfl⟩ hd
      obtain ⟨hi, rfl⟩ := upI_get hd
      obtain ⟨m, hm⟩ : ∃ m, ns[i]? = some m := ⟨ns[i], List.getElem?_eq_getElem hi⟩
      obtain ⟨m1, m2, m3⟩ := hns m (List.mem_of_getElem? hm)
      have htl : (ns.take i).length = i := by rw [List.length_take]; omega
      have e1 : ((i : Int)).toNat = i := Int.toNat_natCast i
      have hg : (intsN ns).getD ((i : Int)).toNat 0 = m := by rw [e1]; exact intsN_get hm
      have hi1 : (i : Int) < ((intsN ns).length : Nat) := by omega
      have hdb : ∀ x ∈ mapW (rowT n f) v (ns.take i), x.length ≤ 720 := mapW_mem fun m hm u => rowL_len (by have := (hns m (List.mem_of_mem_take hm)).2.2; unfold dN at this; omega) n3
      have htx : tx.length ≤ 6000 := by
        have h1 := tl_len (v := v + 1) hdb
        rw [mapW_len, htl] at h1
        have h2 : (sepF v).length ≤ 2 := by unfold sepF; split; decide; split <;> decide
        have : i * (720 + 2) ≤ 5 * 722 := Nat.mul_le_mul (by omega) (by omega)
        rw [etx, List.length_append, List.length_append, List.length_singleton]
        omega
      have hrwl : rw'.length ≤ 16777216 := by rw [erw, List.length_append, mapW_len, htl]; simp; omega
      have hdul : du.length ≤ 16777216 := by rw [edu, mapW_len, htl]; omega
      have hbel : be.length ≤ 16777216 := by rw [ebe, List.length_map, htl]; omega
      have hodd : ((m : Int) % 2 == 1) = (m % 2 == 1) := by rw [Bool.eq_iff_iff, beq_iff_eq, beq_iff_eq]; omega
      refine ⟨_, .tail (.tail (.tail (.tail (.tail (.tail (.tail (.tail (.tail (.head hsk))))))))), ?_⟩
      refine Ex.cons (T.assign (d := .bool (m % 2 == 1)) (T.ev (by ktr_rel) (by rw [hg, hodd])) (.tail (.tail (.tail (.tail (.tail (.tail (.tail (.tail (.tail (.tail (.head hso))))))))))) ?_ (fun _ => rfl))
      have hb1 : (bif m % 2 == 1 then (f : Int) else 1).natAbs < 2 ^ 63 := by cases m % 2 == 1 <;> simp <;> omega
      have hp1 : (2 : Int) ^ ((n : Int) - 1).toNat = ((2 ^ (n - 1) : Nat) : Int) := by rw [show ((n : Int) - 1).toNat = n - 1 by omega]; simp
      have hgb : ((intsN ns).getD ((i : Int)).toNat 0).natAbs < 2 ^ 63 := by rw [hg]; omega
      refine Ex.cons (T.assign (d := .int ((dN n f s m : Nat) : Int)) (T.ev (by ktr_rel) (by
        rw [hg, hp1]
        unfold dN dotN
        generalize 2 ^ (n - 1) = P
        cases m % 2 == 1
        · show PyData.int ((P : Int) * m * 1 + 0) = .int ((P * m + 0 : Nat) : Int)
          simp
        · show PyData.int ((P : Int) * m * f + s) = .int ((P * f * m + s : Nat) : Int)
          rw [Int.natCast_add, Int.natCast_mul, Int.natCast_mul, Int.mul_right_comm])) (.tail (.tail (.tail (.tail (.tail (.tail (.tail (.tail (.tail (.tail (.tail (.head hsd)))))))))))) ?_ (fun _ => rfl))
      refine Ex.cons (T.appS (l := rowD n f s (v + i) m) (by tb_rel) (T.call (by tb_rel) (by one_item) (Fn.up (row_fn (by omega) n3) (by decide)) (fun _ => rfl) (fun _ => rfl)) hrwl (.tail (.tail (.tail (.tail (.tail (.tail (.head fun _ h => nomatch h))))))) ?_ (by decide) (fun _ => rfl))
      refine Ex.cons (T.appLL (l := dueD n f s (v + i) m) (by tb_rel) (T.call (by tb_rel) (by one_item) (Fn.up (due_fn m3 n3) (by decide)) (fun _ => rfl) (fun _ => rfl)) hdul (.tail (.tail (.tail (.tail (.tail (.tail (.tail (.head fun _ h => nomatch h)))))))) ?_ (by decide) (fun _ => rfl))
      obtain ⟨z1, z2⟩ := p2b n3
      refine Ex.cons (T.appI (i := belN n f s m) (f := .fr) (by tb_rel) (T.ev (by ktr_rel) (by unfold belN; rw [Int.toNat_natCast])) hbel (.tail (.tail (.tail (.tail (.tail (.tail (.tail (.tail (.head fun _ h => nomatch h))))))))) ?_ (by decide) (fun _ => rfl))
      have hs2 : (sepF (v + 1 + i)).length ≤ 2 := by unfold sepF; split; decide; split <;> decide
      refine Ex.cons (T.assign (T.call (by tb_rel) (T.arg (T.nS (by tb_rel)) (T.arg (sepE (by ktr_rel) (fun _ _ => rfl)) EvL.nil fun _ => rfl) fun _ => rfl) (Fn.up (concat_fn (by omega)) (by decide)) (fun _ => rfl) (fun _ => rfl)) (.tail (.tail (.tail (.tail (.tail (.head fun _ h => nomatch h)))))) ?_ (fun _ => rfl))
      have hrt : (rowT n f (v + i) m).length ≤ 720 := rowL_len (by unfold dN at m3; omega) n3
      refine Ex.cons (T.assign (d := .str (S (tx ++ sepF (v + 1 + i) ++ rowT n f (v + i) m))) (T.call (by tb_rel) (T.arg (T.nS (by tb_rel)) (T.arg (T.call (by tb_rel) (T.arg (T.ev (by ktr_rel) (by rw [hg])) (T.arg (T.nI (by tb_rel)) (T.arg (T.nI (by tb_rel)) (T.arg (by ktr_rel) EvL.nil fun _ => rfl) fun _ => rfl) fun _ => rfl) fun _ => rfl) (typed_fn n1 n3 f1 f2 m1 m2) (fun _ => rfl) (fun _ => rfl)) EvL.nil fun _ => rfl) fun _ => rfl) (Fn.up (concat_fn (by rw [List.length_append]; show _ + (rowT n f (v + i) m).length ≤ _; omega)) (by decide)) (fun _ => rfl) (fun _ => rfl)) (.tail (.tail (.tail (.tail (.tail (.head fun _ h => nomatch h)))))) ?_ (fun _ => rfl))
      refine Ex.nil ⟨_, _, _, _, .val (.int i), .val (.bool (m % 2 == 1)), .val (.int ((dN n f s m : Nat) : Int)), ?_, ?_, ?_, ?_, (fun _ h => nomatch h), (fun _ h => nomatch h), (fun _ h => nomatch h), rfl⟩
      · rw [take_snoc hm, mapW_snoc, htl, tl_snoc, mapW_len, htl, etx]; simp
      · rw [take_snoc hm, mapW_snoc, htl, erw]; simp
      · rw [take_snoc hm, mapW_snoc, htl, edu]
      · rw [take_snoc hm, List.map_append, ebe]; rfl
    rintro ρ' ⟨tx, rw', du, be, sk, so, sd, etx, erw, edu, ebe, hsk, hso, hsd, rfl⟩
    rw [upI_len, List.take_length] at etx erw edu ebe
    have dpos : ∀ m ∈ ns, 1 ≤ dotN n f m := by
      intro m hm
      obtain ⟨a1, a2, a3⟩ := hns m hm
      unfold dotN
      have hp : 1 ≤ 2 ^ (n - 1) := Nat.one_le_two_pow
      cases m % 2 == 1
      · exact Nat.mul_pos hp a1
      · exact Nat.mul_pos (Nat.mul_pos hp f1) a1
    have hRl : (mapW (rowT n f) v ns).length = ns.length := mapW_len _ _ _
    have hR : ∀ x ∈ mapW (rowT n f) v ns, x.length ≤ 720 := mapW_mem fun m hm u => rowL_len (by have := (hns m hm).2.2; unfold dN at this; omega) n3
    have htx : tx.length ≤ 6000 := by
      have h1 := tl_len (v := v + 1) hR
      rw [hRl] at h1
      have h2 : (sepF v).length ≤ 2 := by unfold sepF; split; decide; split <;> decide
      have : ns.length * (720 + 2) ≤ 5 * 722 := Nat.mul_le_mul (by omega) (by omega)
      rw [etx, List.length_append, List.length_append, List.length_singleton]
      omega
    have hsN : ∀ u, (sepF u).length ≤ 2 := by intro u; unfold sepF; split; decide; split <;> decide
    have emix : tx ++ sepF (v + 1 + (ns.length : Int)) = mix v ([46] :: [] :: mapW (rowT n f) v ns) := by
      rw [etx, ← hRl]; exact text_mix _ _
    have hmix : (mix v ([46] :: [] :: mapW (rowT n f) v ns)).length ≤ 7000 := by
      rw [← emix, List.length_append]; have := hsN (v + 1 + (ns.length : Int)); omega
    have lenE : Fn w 2 (.builtin "len") [.list ((intsN ns).map .int)] (.int ns.length) := by
      have := fn_len (w := w) (k := 2) (ds := (intsN ns).map PyData.int) (by rw [List.length_map]; omega)
      rwa [List.length_map, hlenI] at this
    refine Ex.cons (T.assign (d := .str (S (mix v ([46] :: [] :: mapW (rowT n f) v ns)))) (T.ev (T.call (by tb_rel) (T.arg (T.nS (by tb_rel)) (T.arg (sepE (T.bin (T.bin (by ktr_rel) (T.call (by tb_rel) (T.arg (T.nL (by tb_rel)) EvL.nil fun _ => rfl) lenE (fun _ => rfl) (fun _ => rfl)) op_add) Ev.int (op_mod (by decide))) (fun _ _ => rfl)) EvL.nil fun _ => rfl) fun _ => rfl) (Fn.up (concat_fn (by have := hsN (v + 1 + (ns.length : Int)); omega)) (by decide)) (fun _ => rfl) (fun _ => rfl)) (by rw [emix])) (.tail (.tail (.tail (.tail (.tail (.head fun _ h => nomatch h)))))) ?_ (fun _ => rfl))
    have hql := quoN_len (v := v) (okL_all (n := n) (f := f) (ns := ns) (v := v)) (by simp [hRl]; omega) (by
      intro l hl
      rcases List.mem_cons.mp hl with rfl | hl
      · decide
      rcases List.mem_cons.mp hl with rfl | hl
      · decide
      exact hR l hl) hmix
    refine Ex.cons (Ex1.for (It.range1 (n := s) (Has.mem (by tb_rel)) (f := .fr) (T.nI (by tb_rel)) (by omega) (fun _ => rfl))
      (fun i ρ => ∃ sk, (∀ v, sk ≠ .glob v) ∧ ρ = RR ns f n s v (.val (.str (S (quoN i (mix v ([46] :: [] :: mapW (rowT n f) v ns)))))) (oS rw') (oLL du) (oI be) sk so sd .free .free .free)
      ⟨_, hsk, rfl⟩ ?_ ?_ (fun _ _ => rfl))
    · rintro i ρi d ⟨sk, hsk, rfl⟩ hd
      obtain ⟨hi, rfl⟩ := upI_get hd
      refine ⟨_, .tail (.tail (.tail (.tail (.tail (.tail (.tail (.tail (.tail (.head hsk))))))))), ?_⟩
      refine Ex.cons (T.assign (d := .str (S (quoN (i + 1) (mix v ([46] :: [] :: mapW (rowT n f) v ns))))) (T.call (by tb_rel) (T.arg (T.nS (by tb_rel)) EvL.nil fun _ => rfl) (Fn.up (quo_fn (hql i (by omega))) (by decide)) (fun _ => rfl) (fun _ => rfl)) (.tail (.tail (.tail (.tail (.tail (.head fun _ h => nomatch h)))))) ?_ (fun _ => rfl))
      exact Ex.nil ⟨.val (.int i), (fun _ h => nomatch h), rfl⟩
    rintro ρ' ⟨sk, hsk, rfl⟩
    rw [upI_len]
    obtain ⟨s', rfl⟩ : ∃ s', s = s' + 1 := ⟨s - 1, by omega⟩
    rw [quoN_mix okL_all s', lines_all dpos, ← erw]
    have hrw7 : rw'.length ≤ 7 := by rw [erw, List.length_append, mapW_len]; simp; omega
    have hrwb : ∀ x ∈ rw', x.length ≤ 720 := by
      rw [erw]
      intro x hx
      rcases List.mem_append.mp hx with hx | hx
      · simp only [List.mem_cons, List.not_mem_nil, or_false] at hx
        rcases hx with rfl | rfl
        · simp; omega
        · simp
      · exact mapW_mem (p := fun x => x.length ≤ 720) (fun m hm u => rowL_len (hns m hm).2.2 n3) x hx
    have hfl : ∀ (ls : List (List Nat)), (∀ x ∈ ls, x.length ≤ 720) → ls.flatten.length ≤ ls.length * 720 := by
      intro ls
      induction ls with
      | nil => intro _; simp
      | cons a r ih =>
        intro h
        have h1 := h a (.head _)
        have h2 := ih fun x hx => h x (.tail _ hx)
        rw [List.flatten_cons, List.length_append, List.length_cons, Nat.succ_mul]
        omega
    have hjz : (rw' ++ [[]]).flatten.length + (rw' ++ [[]]).length * [13, 10].length ≤ 16777216 := by
      have h1 := hfl rw' hrwb
      have h2 : rw'.length * 720 ≤ 7 * 720 := Nat.mul_le_mul hrw7 (Nat.le_refl _)
      rw [fl1, List.length_append, List.length_append]
      simp only [List.length_nil, List.length_cons]
      omega
    refine Ex.cons (Ex1.ite (b := false) (T.tr (T.tcmp (T.nS (by tb_rel)) (T.meth (T.lit lit_rn) hasTy_str F.plainAttrs_str F.slot_str_join F.type_str_join (T.arg (T.bin (T.own (by tb_rel)) (Ev.list (ds := [([] : List Nat)].map fun l => .str (S l)) (T.argF (T.lit lit_empty) EvL.nil fun _ => rfl) (by simp)) (o_addLS (by simp; omega))) EvL.nil fun _ => rfl) (fn_join hjz) (fun _ => rfl) (by decide) (fun _ => rfl) (fun _ => rfl) (fun _ => rfl)) o_neS (by with_unfolding_all rfl)) (by rw [joinL_crlf]; simp)) (fun h => nomatch h) (fun _ => ?_))
    refine Ex.nil ?_
    refine Ex.cons (Ex1.assignOwn (ds := ([] : List Int).map .int) .nil (by decide) (by ke_reads) ?_)
    have okr : ∀ l ∈ rw', okL l := by
      rw [erw]
      intro x hx
      rcases List.mem_append.mp hx with hx | hx
      · simp only [List.mem_cons, List.not_mem_nil, or_false] at hx
        rcases hx with rfl | rfl
        · intro y hy
          rw [(List.mem_replicate.mp hy).2]; decide
        · intro y hy; cases hy
      · exact mapW_mem (p := okL) (fun m _ u => okL_rowL) x hx
    have hcz : (crlf rw').length ≤ 1000000 := by
      have h1 := crlf_len hrwb
      have h2 : rw'.length * (720 + 2) ≤ 7 * 722 := Nat.mul_le_mul hrw7 (Nat.le_refl _)
      omega
    have hrne : rw' ≠ [] := by rw [erw]; simp
    refine Ex.cons (Ex1.for (It.range1 (n := ns.length) (Has.mem (by tb_rel)) (T.call (by tb_rel) (T.arg (T.nL (by tb_rel)) EvL.nil fun _ => rfl) lenE (fun _ => rfl) (fun _ => rfl)) (by omega) (fun _ => rfl))
      (fun i ρ => ∃ sk ki bo, (∀ v, sk ≠ .glob v) ∧ (∀ v, ki ≠ .glob v) ∧ (∀ v, bo ≠ .glob v) ∧ ρ = RR ns f n (s' + 1) v (.val (.str (S (crlf rw')))) (oS rw') (oLL du) (oI be) sk so sd (oI ((ns.take i).map fun m => ((dN n f (s' + 1) m : Nat) : Int) / 2 ^ n)) ki bo)
      ⟨_, .free, .free, hsk, (fun _ h => nomatch h), (fun _ h => nomatch h), rfl⟩ ?_ ?_ (fun _ _ => rfl))
    · rintro i ρi d ⟨sk, ki, bo, hsk, hki, hbo, rfl⟩ hd
      obtain ⟨hi, rfl⟩ := upI_get hd
      obtain ⟨m, hm⟩ : ∃ m, ns[i]? = some m := ⟨ns[i], List.getElem?_eq_getElem hi⟩
      obtain ⟨m1, m2, m3⟩ := hns m (List.mem_of_getElem? hm)
      refine ⟨_, .tail (.tail (.tail (.tail (.tail (.tail (.tail (.tail (.tail (.head hsk))))))))), ?_⟩
      have e1 : ((i : Int)).toNat = i := Int.toNat_natCast i
      have hrow : (rw' ++ [[]])[((2 : Int) + (i : Int)).toNat]? = some (rowD n f (s' + 1) (v + i) m) := by
        rw [show ((2 : Int) + (i : Int)).toNat = 2 + i by omega, erw, List.append_assoc, List.getElem?_append_right (by simp), show 2 + i - [List.replicate (1 + (s' + 1)) 46, ([] : List Nat)].length = i by simp]
        rw [List.getElem?_append_left (by rw [mapW_len]; exact hi), mapW_get, hm]; rfl
      have hdue : du[((i : Int)).toNat]? = some (dueD n f (s' + 1) (v + i) m) := by rw [e1, edu, mapW_get, hm]; rfl
      have hbe : be.getD ((i : Int)).toNat 0 = belN n f (s' + 1) m := by
        rw [e1, ebe, List.getD_eq_getElem?_getD, List.getElem?_map, hm]; rfl
      have hbel : be.length = ns.length := by rw [ebe, List.length_map]
      have dp := dpos m (List.mem_of_getElem? hm)
      have hkd : Kd w (rowD n f (s' + 1) (v + i) m) (dueD n f (s' + 1) (v + i) m) := kd_row n1 (by unfold dN; omega)
      have hrl : (rowD n f (s' + 1) (v + i) m).length ≤ 720 := rowL_len m3 n3
      refine Ex.cons (T.assign (d := .list ((dueD n f (s' + 1) (v + i) m).map (gI true))) (T.call (by tb_rel) (T.arg (Ev.item (d := .str (S (rowD n f (s' + 1) (v + i) m))) (i := 2 + (i : Int)) (T.meth (T.nS (by tb_rel)) hasTy_str F.plainAttrs_str F.slot_str_split F.type_str_split (T.arg (T.lit lit_rn) EvL.nil fun _ => rfl) (fn_split okr hrne hcz (by omega)) (fun _ => rfl) (by decide) (fun _ => rfl) (fun _ => rfl) (fun _ => rfl)) (by ktr_rel) (by omega) (by omega) (by rw [List.getElem?_map, hrow]; rfl) (fun _ _ => rfl)) EvL.nil fun _ => rfl) (Fn.up (kinds_fn hkd (by omega)) (by decide)) (fun _ => rfl) (fun _ => rfl)) (.tail (.tail (.tail (.tail (.tail (.tail (.tail (.tail (.tail (.tail (.tail (.tail (.tail (.head hki)))))))))))))) ?_ (fun _ => rfl))
      have nextE : Fn w 2 (.ref 156) [.list ((dueD n f (s' + 1) (v + i) m).map (gI true))] (.list (([((dN n f (s' + 1) m : Nat) : Int) / 2 ^ n, -((dN n f (s' + 1) m : Nat) : Int) / 2 ^ n] : List Int).map .int)) := next_row n1 n3 m3
      refine Ex.cons (T.assign (d := .list (([((dN n f (s' + 1) m : Nat) : Int) / 2 ^ n, -((dN n f (s' + 1) m : Nat) : Int) / 2 ^ n] : List Int).map .int)) (T.ifTrue (T.tr (T.tcmp (T.ev (Ev.plain (T.nL (by tb_rel))) (by show PyData.list (bareL _) = _; rw [bareL_g])) (Ev.item (d := .list ((dueD n f (s' + 1) (v + i) m).map .int)) (i := (i : Int)) (T.own (by tb_rel)) (T.nI (by tb_rel)) (by omega) (by omega) (by rw [List.getElem?_map, hdue]; rfl) (fun _ _ => rfl)) op_eqL (by with_unfolding_all rfl)) (by simp))
        (T.call (by tb_rel) (T.arg (T.nL (by tb_rel)) EvL.nil fun _ => rfl) nextE (fun _ => rfl) (fun _ => rfl))) (.tail (.tail (.tail (.tail (.tail (.tail (.tail (.tail (.tail (.tail (.tail (.tail (.tail (.tail (.head hbo))))))))))))))) ?_ (fun _ => rfl))
      have hdn : -(((dN n f (s' + 1) m : Nat) : Int)) / 2 ^ n = belN n f (s' + 1) m := bel_eq _ _
      have hbb : -4611686018427387904 < belN n f (s' + 1) m ∧ belN n f (s' + 1) m < 4611686018427387904 := by
        rw [← hdn]
        obtain ⟨y1, y2⟩ := p2b n3
        rw [Int.toNat_natCast] at y1 y2
        generalize (2 : Int) ^ n = p at y1 y2
        have h1 := Int.emod_add_mul_ediv (-(((dN n f (s' + 1) m : Nat) : Int))) p
        have h2 := Int.emod_nonneg (-(((dN n f (s' + 1) m : Nat) : Int))) (by omega : p ≠ 0)
        have h3 := Int.emod_lt_of_pos (-(((dN n f (s' + 1) m : Nat) : Int))) y1
        have hp : p = 1 ∨ p = 2 ∨ p = 3 ∨ p = 4 ∨ p = 5 ∨ p = 6 ∨ p = 7 ∨ p = 8 := by omega
        rcases hp with rfl | rfl | rfl | rfl | rfl | rfl | rfl | rfl <;> omega
      refine Ex.cons (Ex1.ite (b := false) (T.tr (T.tcmp (T.call (by tb_rel) (T.arg (T.ev (d' := .int (belN n f (s' + 1) m)) (by ktr_rel) (by rw [← hdn]; rfl)) EvL.nil fun _ => rfl) (fn_str hbb.1 hbb.2) (fun _ => rfl) (fun _ => rfl)) (T.call (by tb_rel) (T.arg (T.ev (d' := .int (belN n f (s' + 1) m)) (by ktr_rel) (by rw [hbe])) EvL.nil fun _ => rfl) (fn_str hbb.1 hbb.2) (fun _ => rfl) (fun _ => rfl)) op_neS (by with_unfolding_all rfl)) (by simp)) (fun h => nomatch h) (fun _ => ?_))
      refine Ex.nil ?_
      refine Ex.cons (T.appI (i := ((dN n f (s' + 1) m : Nat) : Int) / 2 ^ n) (f := .fr) (by tb_rel) (T.ev (by ktr_rel) (by rfl)) (by rw [List.length_map, List.length_take]; omega) (.tail (.tail (.tail (.tail (.tail (.tail (.tail (.tail (.tail (.tail (.tail (.tail (.head fun _ h => nomatch h))))))))))))) ?_ (by decide) (fun _ => rfl))
      refine Ex.nil ⟨.val (.int i), .val (.list ((dueD n f (s' + 1) (v + i) m).map (gI true))), .val (.list (([((dN n f (s' + 1) m : Nat) : Int) / 2 ^ n, -((dN n f (s' + 1) m : Nat) : Int) / 2 ^ n] : List Int).map .int)), (fun _ h => nomatch h), (fun _ h => nomatch h), (fun _ h => nomatch h), ?_⟩
      have eL : (ns.take (i + 1)).map (fun m => ((dN n f (s' + 1) m : Nat) : Int) / 2 ^ n) = (ns.take i).map (fun m => ((dN n f (s' + 1) m : Nat) : Int) / 2 ^ n) ++ [((dN n f (s' + 1) m : Nat) : Int) / 2 ^ n] := by rw [take_snoc hm, List.map_append]; rfl
      rw [eL]
    · rintro ρ' ⟨sk, ki, bo, hsk, hki, hbo, rfl⟩
      rw [upI_len, List.take_length]
      refine Ex.cons (T.retM (T.oLI (by tb_rel)) ?_)
      rfl
end PartM4
section PartN3
/-- the numbers of the law -/
def hmL (z f : Nat) (wd : List Int) : List Nat := (List.range z).map fun k => (homeN (wd.drop k ++ wd.take k) f z).1.toNat
def rotN (h : List Nat) : Nat → List Nat
  | 0 => h
  | i + 1 => (rotN h i).drop 1 ++ (rotN h i).take 1
def moreN (m f : Nat) (wd : List Int) : Nat → Nat
  | 0 => m
  | i + 1 => moreN m f wd i / 2 * (bif wd.getD i 0 == 1 then f else 1)
def numN (h : List Nat) (m : Nat) : List Nat := h ++ [h.getD 0 0 + m]
def onesN (wd : List Int) : Nat := wd.countP (· == 1)
def sentN (z f n r : Nat) (wd : List Int) : Nat := 2 ^ (n - 1) * (2 ^ z - f ^ onesN wd) + r
def okStep (z f n s : Nat) (wd : List Int) (h : List Nat) (m i : Nat) : Bool :=
  let H := rotN h i
  let M := moreN m f wd i
  let N := numN H M
  Builtin.bitAnd ((2 ^ (z - i) : Nat) - 1 : Int) ((H.getD 0 0 + M : Nat) : Int) == ((H.getD 0 0 % 2 ^ (z - i) : Nat) : Int)
    && (N.map fun m => dN n f s m / 2 ^ n) == numN (rotN h (i + 1)) (moreN m f wd (i + 1))
    && N.all fun m => Nat.ble 1 m && Nat.ble m 255 && Nat.ble (dN n f s m) 700
def okAll (z f c n b r : Nat) : Bool :=
  let wd := wordF c z f
  let s := sentN z f n r wd
  let h := hmL z f wd
  let m := (1 + b) * 2 ^ z
  Nat.ble 1 s && Nat.ble s 20 && Nat.ble (f ^ onesN wd) (2 ^ z) && (List.range z).all (fun k => decide (0 ≤ (homeN (wd.drop k ++ wd.take k) f z).1)) && (List.range z).all fun i => okStep z f n s wd h m i
theorem ok_2 : ∀ a, a < 2 → ∀ c, c < 4 → ∀ n, n < 3 → ∀ b, b < 2 → ∀ r, r < 2 ^ (n + 1) → okAll 2 (1 + 2 * a) c (n + 1) b r = true := by decide +kernel
theorem ok_3 : ∀ a, a < 4 → ∀ c, c < 8 → ∀ n, n < 2 → ∀ b, b < 2 → ∀ r, r < 2 ^ (n + 1) → okAll 3 (1 + 2 * a) c (n + 1) b r = true := by decide +kernel
theorem ok_4 : ∀ a, a < 8 → ∀ c, c < 16 → ∀ n, n < 1 → ∀ b, b < 2 → ∀ r, r < 2 ^ (n + 1) → okAll 4 (1 + 2 * a) c (n + 1) b r = true := by decide +kernel
theorem ok_all {z a c n b r : Nat} (hz : 2 ≤ z ∧ z ≤ 4) (ha : a < 2 ^ (z - 1)) (hc : c < 2 ^ z) (hn : 1 ≤ n) (hn2 : n ≤ 5 - z) (hb : b < 2) (hr : r < 2 ^ n) : okAll z (1 + 2 * a) c n b r = true := by
  obtain ⟨n, rfl⟩ : ∃ n', n = n' + 1 := ⟨n - 1, by omega⟩
  obtain ⟨h1, h2⟩ := hz
  have : z = 2 ∨ z = 3 ∨ z = 4 := by omega
  rcases this with rfl | rfl | rfl
  · exact ok_2 a ha c hc n (by omega) b hb r hr
  · exact ok_3 a ha c hc n (by omega) b hb r hr
  · exact ok_4 a ha c hc n (by omega) b hb r hr
theorem bit_mod {c : Int} {z p : Nat} (h : p < z) : c % 2 ^ z / 2 ^ p % 2 = c / 2 ^ p % 2 := by
  obtain ⟨t, rfl⟩ : ∃ t, z = p + (t + 1) := ⟨z - p - 1, by omega⟩
  have hp : (2 : Int) ^ p ≠ 0 := Int.pow_ne_zero (by decide)
  have e : c = c % 2 ^ (p + (t + 1)) + 2 ^ p * (2 * (2 ^ t * (c / 2 ^ (p + (t + 1))))) := by
    have := Int.emod_add_mul_ediv c (2 ^ (p + (t + 1)))
    rw [show (2 : Int) ^ p * (2 * (2 ^ t * (c / 2 ^ (p + (t + 1))))) = 2 ^ (p + (t + 1)) * (c / 2 ^ (p + (t + 1))) by
      rw [Int.pow_add, Int.pow_succ, ← Int.mul_assoc, ← Int.mul_assoc, Int.mul_assoc (2 ^ p) 2, Int.mul_comm 2 (2 ^ t), Int.mul_assoc]]
    exact this.symm
  conv => rhs; rw [e]
  rw [Int.add_mul_ediv_left _ _ hp, Int.add_mul_emod_self_left]
theorem wordN_mod {c f : Int} {z : Nat} : ∀ i, i ≤ z → wordN (c % 2 ^ z) z f i = wordN c z f i
  | 0, _ => rfl
  | i + 1, h => by
    have ih := wordN_mod (c := c) (f := f) (z := z) i (by omega)
    have hb : ∀ wt, bitOf (c % 2 ^ z) z f wt i = bitOf c z f wt i := fun wt => by unfold bitOf; rw [bit_mod (by omega)]
    unfold wordN
    rw [ih, hb]
theorem wordF_mod {c f : Int} {z : Nat} : wordF c z f = wordF (((c % 2 ^ z).toNat : Nat) : Int) z f := by
  have h0 : 0 ≤ c % 2 ^ z := Int.emod_nonneg _ (Int.pow_ne_zero (by decide))
  rw [Int.toNat_of_nonneg h0]
  unfold wordF
  rw [wordN_mod z (Nat.le_refl _)]
theorem wordF_len {c f : Int} {z : Nat} : (wordF c z f).length = z := by
  unfold wordF
  cases (wordN c z f z).1.any (· == 1)
  · show ((wordN c z f z).1.set _ _).length = _
    rw [List.length_set, wordN_len]
  · exact wordN_len _ _ _ _
theorem rotN_len {h : List Nat} (h1 : 1 ≤ h.length) : ∀ i, (rotN h i).length = h.length
  | 0 => rfl
  | i + 1 => by
    have := rotN_len h1 i
    show ((rotN h i).drop 1 ++ (rotN h i).take 1).length = _
    rw [List.length_append, List.length_drop, List.length_take, this]; omega
structure Ok (z f n s : Nat) (wd : List Int) (m : Nat) : Prop where
  s1 : 1 ≤ s
  s2 : s ≤ 20
  ones : f ^ onesN wd ≤ 2 ^ z
  home : ∀ k, k < z → 0 ≤ (homeN (wd.drop k ++ wd.take k) f z).1
  and : ∀ i, i < z → Builtin.bitAnd ((2 ^ (z - i) : Nat) - 1 : Int) (((rotN (hmL z f wd) i).getD 0 0 + moreN m f wd i : Nat) : Int) = (((rotN (hmL z f wd) i).getD 0 0 % 2 ^ (z - i) : Nat) : Int)
  next : ∀ i, i < z → (numN (rotN (hmL z f wd) i) (moreN m f wd i)).map (fun m => dN n f s m / 2 ^ n) = numN (rotN (hmL z f wd) (i + 1)) (moreN m f wd (i + 1))
  small : ∀ i, i < z → ∀ x ∈ numN (rotN (hmL z f wd) i) (moreN m f wd i), 1 ≤ x ∧ x ≤ 255 ∧ dN n f s x ≤ 700
theorem ok_facts {z a n b r : Nat} {c : Int} (hz : 2 ≤ z ∧ z ≤ 4) (ha : a < 2 ^ (z - 1)) (hn : 1 ≤ n) (hn2 : n ≤ 5 - z) (hb : b < 2) (hr : r < 2 ^ n) :
    Ok z (1 + 2 * a) n (sentN z (1 + 2 * a) n r (wordF c z ((1 + 2 * a : Nat) : Int))) (wordF c z ((1 + 2 * a : Nat) : Int)) ((1 + b) * 2 ^ z) := by
  have hc : (c % 2 ^ z).toNat < 2 ^ z := by
    have h1 : c % 2 ^ z < 2 ^ z := Int.emod_lt_of_pos _ (Int.pow_pos (by decide))
    have h2 : 0 ≤ c % 2 ^ z := Int.emod_nonneg _ (Int.pow_ne_zero (by decide))
    have h3 : ((2 ^ z : Nat) : Int) = 2 ^ z := by simp
    omega
  have h := ok_all hz ha hc hn hn2 hb hr
  rw [wordF_mod (c := c)]
  unfold okAll at h
  dsimp only at h
  generalize wordF (((c % 2 ^ z).toNat : Nat) : Int) z ((1 + 2 * a : Nat) : Int) = wd at h ⊢
  simp only [Bool.and_eq_true, List.all_eq_true, List.mem_range, Nat.ble_eq, decide_eq_true_eq, okStep, beq_iff_eq] at h
  obtain ⟨⟨⟨⟨h1, h2⟩, h3⟩, h4⟩, h5⟩ := h
  exact ⟨h1, h2, h3, h4, fun i hi => (h5 i hi).1.1, fun i hi => (h5 i hi).1.2, fun i hi x hx => by
    have := (h5 i hi).2 x hx
    exact ⟨this.1.1, this.1.2, this.2⟩⟩
end PartN3
section PartN2
local macro_rules | `(tactic| w_means) => `(tactic| first | with_reducible assumption | exact Fn.up (by assumption) (by decide))

section
variable {w : World} {k : Nat} {ρ : List (Str × Sl)} {x y : Expr} {f g : Fl} {pos : Pos} {i : Int}
theorem T.takeI {ns : List Int} {pp : Pos} (hv : Ev w k ρ x (.list (ns.map .int)) f) (hi : Ev w k ρ y (.int i) g) (h0 : 0 ≤ i) (hz : ns.length ≤ 16777216) (ht : ∀ o r, letTemporaryGo x o r = pure ()) :
    Ev w k ρ (.Subscript x (.Slice none (some y) none pp) pos) (.list ((ns.take i.toNat).map .int)) .fr := by
  rw [List.map_take]; exact Ev.sliceTo hv hi h0 (all_ints ns) (by simpa using hz) ht
theorem T.dropI {ns : List Int} {pp : Pos} (hv : Ev w k ρ x (.list (ns.map .int)) f) (hi : Ev w k ρ y (.int i) g) (h0 : 0 ≤ i) (hz : ns.length ≤ 16777216) (ht : ∀ o r, letTemporaryGo x o r = pure ()) :
    Ev w k ρ (.Subscript x (.Slice (some y) none none pp) pos) (.list ((ns.drop i.toNat).map .int)) .fr := by
  rw [List.map_drop]; exact Ev.sliceFrom hv hi h0 (all_ints ns) (by simpa using hz) ht
end
theorem modN (c : Int) (k : Nat) : ∃ a : Nat, a < 2 ^ k ∧ (Unit → c % 2 ^ k = (a : Int)) := by
  have h1 : c % 2 ^ k < 2 ^ k := Int.emod_lt_of_pos _ (Int.pow_pos (by decide))
  have h2 : 0 ≤ c % 2 ^ k := Int.emod_nonneg _ (Int.pow_ne_zero (by decide))
  have h3 : ((2 ^ k : Nat) : Int) = 2 ^ k := by simp
  exact ⟨(c % 2 ^ k).toNat, by omega, fun _ => by omega⟩
theorem intsN_getD (h : List Nat) (i : Nat) : (intsN h).getD i 0 = ((h.getD i 0 : Nat) : Int) := by
  rw [List.getD_eq_getElem?_getD, List.getD_eq_getElem?_getD, List.getElem?_map]
  cases h[i]? <;> rfl
theorem numN_ints (h : List Nat) (m : Nat) : intsN h ++ [(intsN h).getD 0 0 + (m : Int)] = intsN (numN h m) := by
  rw [intsN_getD]
  unfold numN intsN
  rw [List.map_append]
  simp
theorem rot_ints (h : List Nat) (i : Nat) : (intsN (rotN h i)).drop 1 ++ (intsN (rotN h i)).take 1 = intsN (rotN h (i + 1)) := by
  show _ = intsN ((rotN h i).drop 1 ++ (rotN h i).take 1)
  unfold intsN
  rw [List.map_append, List.map_drop, List.map_take]
theorem more_ints (m f : Nat) (wd : List Int) (i : Nat) : ((moreN m f wd i : Nat) : Int) / 2 * (bif wd.getD i 0 == 1 then ((f : Nat) : Int) else 1) = ((moreN m f wd (i + 1) : Nat) : Int) := by
  show _ = ((moreN m f wd i / 2 * (bif wd.getD i 0 == 1 then f else 1) : Nat) : Int)
  cases wd.getD i 0 == 1 <;> simp
theorem round_ints {n f s : Nat} (ns : List Nat) : (ns.map fun m => ((dN n f s m : Nat) : Int) / 2 ^ n) = intsN (ns.map fun m => dN n f s m / 2 ^ n) := by
  unfold intsN
  rw [List.map_map]
  refine List.map_congr_left fun m _ => ?_
  simp
abbrev strI (i : Int) : Str := Str.ofString (toString i)
abbrev gW : List (Str × Value) := [(Str.ofString "_law_cells", .ref 107), (Str.ofString "_law_word", .ref 114), (Str.ofString "range", .type "range"), (Str.ofString "concat", .ref 66), (Str.ofString "str", .type "str"), (Str.ofString "and_", .ref 38), (Str.ofString "_law_round", .ref 163)]
abbrev RW (sc : List Int) (ce si fa wo ho sh mo se nu st le : Sl) : List (Str × Sl) :=
  [(Str.ofString "script", .val (.list (sc.map .int))), (Str.ofString "cells", ce), (Str.ofString "size", si), (Str.ofString "factor", fa), (Str.ofString "word", wo), (Str.ofString "home", ho), (Str.ofString "shift", sh), (Str.ofString "more", mo), (Str.ofString "sent", se), (Str.ofString "numbers", nu), (Str.ofString "step", st), (Str.ofString "left", le),
   (Str.ofString "_law_cells", .glob (.ref 107)), (Str.ofString "_law_word", .glob (.ref 114)), (Str.ofString "range", .glob (.type "range")), (Str.ofString "concat", .glob (.ref 66)), (Str.ofString "str", .glob (.type "str")), (Str.ofString "and_", .glob (.ref 38)), (Str.ofString "_law_round", .glob (.ref 163))]
theorem closure_two {kd : ScopeKind} {a b : Bool} {m : List (Str × Const)} {n0 n1 n2 c1 c2 : Str} (env : Env) {a1 a2 : Addr} (h1 : env.cells.lookup c1 = some a1) (h2 : env.cells.lookup c2 = some a2) : closureFor { kind := kd, names := [(n0, .local), (n1, .local), (n2, .globalImplicit), (c1, .free), (c2, .free)], isGenerator := a, isCoroutine := b, more := m } env = pure [(c2, a2), (c1, a1)] := by
  have e1 : cellOf env c1 = pure a1 := by unfold cellOf; rw [h1]
  have e2 : cellOf env c2 = pure a2 := by unfold cellOf; rw [h2]
  simp [closureFor, e1, e2]
theorem closure_none {kd : ScopeKind} {a b : Bool} {m : List (Str × Const)} {n0 n1 n2 : Str} (env : Env) : closureFor { kind := kd, names := [(n0, .local), (n1, .local), (n2, .globalImplicit)], isGenerator := a, isCoroutine := b, more := m } env = pure [] := by rfl
theorem str_ints {w : World} {ρ : List (Str × Sl)} {is : List Int} {iter : Expr} {px p1 p2 pos pc : Pos} {f : Fl} (h : Ev w 3 ρ iter (.list (is.map .int)) f) (hb : ∀ i ∈ is, -4611686018427387904 < i ∧ i < 4611686018427387904) (hz : is.length ≤ 16777216)
    (hs : ∀ env x, foldedSetIterable iter env x = pure x) :
    Ev w 3 ρ (.ListComp (.Call (.Name (Str.ofString "str") p1) [.Name (Str.ofString "one") p2] [] pc) [⟨.Name (Str.ofString "one") px, iter, [], 0⟩]
      { kind := .function, names := [(Str.ofString ".0", .local), (Str.ofString "one", .local), (Str.ofString "str", .globalImplicit)], isGenerator := false, isCoroutine := false, more := [] } pos) (.list ((is.map strI).map .str)) .fr := by
  refine T.ev (Ev.comp (gs := [(Str.ofString "str", .type "str")]) (is := is) (g := fun i => .str (strI i)) (f := .fr) (ItC.ev h (all_ints is)) (fun env => closure_none env) (by decide) rfl (by decide +kernel) (by decide +kernel) ?_ (by decide +kernel) hz (fun _ _ => rfl) (fun i hi => ?_) hs) (by rw [List.map_map]; rfl)
  · intro g hg
    rw [List.mem_singleton.mp hg]
    exact ⟨by decide +kernel, .inr ⟨by k_is, by kernel_rfl, by decide⟩⟩
  · show Ev w 3 [(Str.ofString "one", .val (.int i)), (Str.ofString "str", .glob (.type "str"))] _ _ _
    have hst : Fn w 3 (.type "str") [.int i] (.str (strI i)) := fn_str (hb i hi).1 (hb i hi).2
    exact T.ev (T.call (by tb_rel) (T.arg (T.nI (by tb_rel)) EvL.nil fun _ => rfl) hst (fun _ => rfl) (fun _ => rfl)) rfl
end PartN2
section PartN6
local macro_rules | `(tactic| w_means) => `(tactic| first | with_reducible assumption | exact Fn.up (by assumption) (by decide))

theorem law_fn {w : World} {sc : List Int} (hz : sc.length ≤ 1000000) : Fn w 4 (.ref 168) [.list (sc.map .int)] (.bool true) := by
  refine fn_defC (x := Str.ofString "script") (ls := [Str.ofString "cells", Str.ofString "size", Str.ofString "factor", Str.ofString "word", Str.ofString "home", Str.ofString "shift", Str.ofString "more", Str.ofString "sent", Str.ofString "numbers", Str.ofString "step", Str.ofString "left"]) (gs := gW)
    (by k_is) (by k_is) (by k_is) (fun _ => rfl) (by decide +kernel) ?_ ?_ ?_ (by decide +kernel) (by decide +kernel) ?_
  · intro y hy
    simp only [List.mem_cons, List.not_mem_nil, or_false] at hy
    rcases hy with rfl | rfl | rfl | rfl | rfl | rfl | rfl | rfl | rfl | rfl | rfl
    · exact .inl (by decide +kernel)
    · exact .inl (by decide +kernel)
    · exact .inr ⟨by decide +kernel, fun L => ⟨_, rfl⟩⟩
    · exact .inr ⟨by decide +kernel, fun L => ⟨_, rfl⟩⟩
    · exact .inl (by decide +kernel)
    · exact .inl (by decide +kernel)
    · exact .inl (by decide +kernel)
    · exact .inl (by decide +kernel)
    · exact .inl (by decide +kernel)
    · exact .inl (by decide +kernel)
    · exact .inl (by decide +kernel)
  · intro g hg
    simp only [gW, List.mem_cons, List.not_mem_nil, or_false] at hg
    rcases hg with rfl | rfl | rfl | rfl | rfl | rfl | rfl
    · exact ⟨rfl, .inl (by k_is)⟩
    · exact ⟨rfl, .inl (by k_is)⟩
    · exact ⟨rfl, .inr ⟨by k_is, by kernel_rfl, by decide⟩⟩
    · exact ⟨rfl, .inl (by k_is)⟩
    · exact ⟨rfl, .inr ⟨by k_is, by kernel_rfl, by decide⟩⟩
    · exact ⟨rfl, .inl (by k_is)⟩
    · exact ⟨rfl, .inl (by k_is)⟩
  · intro L n c h
    have h' : (n, c) ∈ [(Str.ofString "word", L + 1), (Str.ofString "factor", L)] := h
    show List.lookup n [(Str.ofString "word", L + 1), (Str.ofString "factor", L)] = some c
    simp only [List.mem_cons, List.not_mem_nil, or_false, Prod.mk.injEq] at h'
    rcases h' with ⟨rfl, rfl⟩ | ⟨rfl, rfl⟩
    · rfl
    · rfl
  show ExS w 3 _ (RW sc .free .free .free .free .free .free .free .free .free .free .free) _ _
  obtain ⟨c0, c1, c2, c3, hc⟩ : ∃ c0 c1 c2 c3, cellsN sc sc.length = [c0, c1, c2, c3] := by
    have := cellsN_len sc sc.length
    match cellsN sc sc.length, this with
    | [a, b, c, d], _ => exact ⟨a, b, c, d, rfl⟩
  have fcells : Fn w 1 (.ref 107) [.list (sc.map .int)] (.list (([c0, c1, c2, c3] : List Int).map .int)) := hc ▸ cells_fn hz
  obtain ⟨z, hz1, hz2, hze⟩ : ∃ z : Nat, 2 ≤ z ∧ z ≤ 4 ∧ (Unit → 2 + c0 % 3 = (z : Int)) := ⟨2 + (c0 % 3).toNat, by omega, by omega, fun _ => by omega⟩
  obtain ⟨a, ha, hae⟩ := modN c1 (z - 1)
  have ha8 : a < 8 := Nat.lt_of_lt_of_le ha (Nat.pow_le_pow_right (by decide) (by omega) : 2 ^ (z - 1) ≤ 2 ^ 3)
  obtain ⟨n, hn1, hn2, hne⟩ : ∃ n : Nat, 1 ≤ n ∧ n ≤ 5 - z ∧ (Unit → 1 + c3 % (5 - (z : Int)) = (n : Int)) := by
    have h1 := Int.emod_nonneg c3 (by omega : (5 - (z : Int)) ≠ 0)
    have h2 := Int.emod_lt_of_pos c3 (by omega : 0 < (5 - (z : Int)))
    exact ⟨(1 + c3 % (5 - (z : Int))).toNat, by omega, by omega, fun _ => by omega⟩
  obtain ⟨b, hb, hbe⟩ : ∃ b : Nat, b < 2 ∧ (Unit → c3 / 6 % 2 = (b : Int)) := ⟨(c3 / 6 % 2).toNat, by omega, fun _ => by omega⟩
  obtain ⟨r, hr, hre⟩ := modN (c3 / 12) n
  have ok := ok_facts (c := c2) ⟨hz1, hz2⟩ ha hn1 hn2 hb hr
  have hwl : (wordF c2 z ((1 + 2 * a : Nat) : Int)).length = z := wordF_len
  have hf63 : (((1 + 2 * a : Nat) : Int)).natAbs < 2 ^ 63 := by omega
  have fword : Fn w 1 (.ref 114) [.int c2, .int z, .int ((1 + 2 * a : Nat) : Int)] (.list ((wordF c2 z ((1 + 2 * a : Nat) : Int)).map .int)) := word_fn (by omega) hz2 hf63
  generalize wordF c2 z ((1 + 2 * a : Nat) : Int) = wd at ok hwl fword
  have f1 : 1 ≤ 1 + 2 * a := by omega
  have f15 : 1 + 2 * a ≤ 15 := by omega
  have eP1 : ((z : Int) - 1).toNat = z - 1 := by omega
  have hp1 : 0 < (2 : Int) ^ ((z : Int) - 1).toNat := Int.pow_pos (by decide)
  have hm1 : (([c0, c1, c2, c3] : List Int).getD (1 : Int).toNat 0 % (2 : Int) ^ ((z : Int) - 1).toNat).natAbs < 2 ^ 63 := by
    rw [eP1]
    show (c1 % 2 ^ (z - 1)).natAbs < _
    rw [hae ()]; omega
  refine ExS.cons (T.assign (T.call (by tb_rel) (T.arg (T.nL (by tb_rel)) EvL.nil fun _ => rfl) (Fn.up fcells (by decide)) (fun _ => rfl) (fun _ => rfl)) (by ke_reads) ?_ (fun _ => rfl))
  refine ExS.cons (T.assign (d := .int (z : Int)) (T.ev (by ktr_rel) (by rw [← hze ()]; rfl)) (by ke_reads) ?_ (fun _ => rfl))
  refine ExS.cons (T.assign (d := .int ((1 + 2 * a : Nat) : Int)) (T.ev (by ktr_rel) (by
    rw [eP1]
    show PyData.int (1 + 2 * (c1 % 2 ^ (z - 1))) = _
    rw [hae ()]; simp)) (by ke_reads) ?_ (fun _ => rfl))
  generalize 1 + 2 * a = fa at *
  refine ExS.cons (T.assign (d := .list (wd.map .int)) (T.call (by tb_rel) (T.arg (T.ev (d' := .int c2) (by ktr_rel) (by rfl)) (T.arg (T.nI (by tb_rel)) (T.arg (T.nI (by tb_rel)) EvL.nil fun _ => rfl) fun _ => rfl) fun _ => rfl) (Fn.up fword (by decide)) (fun _ => rfl) (fun _ => rfl)) (by ke_reads) ?_ (fun _ => rfl))
  have eh : ((List.range z).map fun (i : Nat) => (i : Int)).map (fun i => PyData.int (homeN (wd.drop i.toNat ++ wd.take i.toNat) fa z).1) = (intsN (hmL z fa wd)).map .int := by
    unfold intsN hmL
    rw [List.map_map, List.map_map, List.map_map]
    refine List.map_congr_left fun k hk => ?_
    have := ok.home k (List.mem_range.mp hk)
    simp only [Function.comp_apply, Int.toNat_natCast]
    rw [Int.toNat_of_nonneg this]
  refine ExS.consS (ExS.comp (x := Str.ofString "k") (y := Str.ofString "home") (c1 := Str.ofString "factor") (c2 := Str.ofString "word") (gs := [(Str.ofString "_law_home", .ref 121)]) (is := (List.range z).map fun (i : Nat) => (i : Int)) (g := fun i => PyData.int (homeN (wd.drop i.toNat ++ wd.take i.toNat) fa z).1) (f := .fr)
    (by
      rw [show ((List.range z).map fun (i : Nat) => (i : Int)).map PyData.int = upI z by simp [upI]]
      exact ItC.of (It.range1 (Has.mem (by tb_rel)) (T.nI (by tb_rel)) (by omega) (fun _ => rfl)))
    ?_ (fun env a1 a2 h1 h2 => closure_two env h1 h2) (by decide +kernel) (by decide +kernel) (by decide +kernel) (by decide +kernel) (Has.mem (by tb_rel)) (Has.mem (by tb_rel)) (by decide +kernel) (by decide +kernel) (by decide +kernel) rfl (by decide +kernel) (by decide +kernel) ?_ (by decide +kernel) (by simp; omega) (fun _ _ => rfl) ?_ (fun _ _ => rfl) (by rw [eh]; ke_reads) ?_)
  · intro env h
    obtain ⟨es, e1, e2, e3, e4, e5, e6, e7, e8⟩ := env
    cases h
    rfl
  · intro g hg
    rw [List.mem_singleton.mp hg]
    exact ⟨by decide +kernel, .inl (by k_is)⟩
  · intro i hi
    simp only [List.mem_map, List.mem_range] at hi
    obtain ⟨j, hj, rfl⟩ := hi
    show Ev w 3 [(Str.ofString "k", .val (.int (j : Int))), (Str.ofString "word", .val (.list (wd.map .int))), (Str.ofString "factor", .val (.int (fa : Int))), (Str.ofString "_law_home", .glob (.ref 121))] _ _ _
    have hl : (wd.drop j ++ wd.take j).length = z := by rw [List.length_append, List.length_drop, List.length_take]; omega
    have fh : Fn w 1 (.ref 121) [.list ((wd.drop j ++ wd.take j).map .int), .int fa] (.int (homeN (wd.drop j ++ wd.take j) fa z).1) := by
      have := home_fn (w := w) (wd := wd.drop j ++ wd.take j) (f := fa) (by omega) hf63
      rwa [hl] at this
    exact T.ev (T.call (by tb_rel) (T.arg (T.ev (d' := .list ((wd.drop j ++ wd.take j).map .int)) (T.bin (T.dropI (T.nLI (by tb_rel)) (T.nI (by tb_rel)) (by omega) (by omega) (fun _ _ => rfl)) (T.takeI (T.nLI (by tb_rel)) (T.nI (by tb_rel)) (by omega) (by omega) (fun _ _ => rfl)) (o_addLI (by rw [List.length_drop, List.length_take]; omega))) (by rw [Int.toNat_natCast])) (T.arg (T.nI (by tb_rel)) EvL.nil fun _ => rfl) fun _ => rfl) (Fn.up fh (by decide)) (fun _ => rfl) (fun _ => rfl)) (by rw [Int.toNat_natCast])
  refine ExS.of ?_
  have hHl : (hmL z fa wd).length = z := by simp [hmL]
  have hRl : ∀ i, (rotN (hmL z fa wd) i).length = z := fun i => (rotN_len (by omega) i).trans hHl
  have hz0 : ((z : Nat) : Int).toNat = z := Int.toNat_natCast z
  have hn0 : ((n : Nat) : Int).toNat = n := Int.toNat_natCast n
  obtain ⟨_, _, hm2⟩ := pow2_lt hz2
  rw [← hz0] at hm2
  have hp3 : 0 < (2 : Int) ^ ((n : Nat) : Int).toNat := Int.pow_pos (by decide)
  refine Ex.cons (T.assign (d := .int (n : Int)) (T.ev (by ktr_rel) (by rw [← hne ()]; rfl)) (by ke_reads) ?_ (fun _ => rfl))
  refine Ex.cons (T.assign (d := .int (((1 + b) * 2 ^ z : Nat) : Int)) (T.ev (by ktr_rel) (by
    rw [hz0]
    show PyData.int ((1 + c3 / 6 % 2) * 2 ^ z) = _
    rw [hbe ()]; simp)) (by ke_reads) ?_ (fun _ => rfl))
  have hcnt : cnt 1 wd = ((onesN wd : Nat) : Int) := rfl
  have hcl : onesN wd ≤ 4 := by
    have : onesN wd ≤ wd.length := List.countP_le_length
    omega
  have hones := ok.ones
  have hpz : 2 ^ z ≤ 2 ^ 4 := Nat.pow_le_pow_right (by decide) hz2
  have esub : (2 : Int) ^ z - (fa : Int) ^ onesN wd = ((2 ^ z - fa ^ onesN wd : Nat) : Int) := by
    rw [Int.ofNat_sub hones]; simp
  refine Ex.cons (T.assign (d := .int ((sentN z fa n r wd : Nat) : Int)) (T.ev
    (T.bin (T.bin (by ktr_rel) (T.bin (by ktr_rel) (T.bin (T.nI (by tb_rel)) (T.meth (T.nLI (by tb_rel)) hasTy_list F.plainAttrs_list F.slot_list_count F.type_list_count (T.arg Ev.int EvL.nil fun _ => rfl) (fn_count (i := 1)) (fun _ => rfl) (by decide) (fun _ => rfl) (fun _ => rfl) (fun _ => rfl)) (op_pow (by rw [hcnt]; omega) (by rw [hcnt]; omega) (by omega))) op_sub) (op_mul (by
      rw [hcnt]; simp only [Int.toNat_natCast]; rw [esub]; omega))) (by ktr_rel) op_add) (by
    rw [hcnt]
    simp only [Int.toNat_natCast]
    rw [esub, show ((n : Int) - 1).toNat = n - 1 by omega]
    show PyData.int (2 ^ (n - 1) * _ + c3 / 12 % 2 ^ n) = _
    rw [hre ()]
    unfold sentN
    simp)) (by ke_reads) ?_ (fun _ => rfl))
  generalize sentN z fa n r wd = s at ok ⊢
  generalize (1 + b) * 2 ^ z = M at ok ⊢
  have hil : ∀ h : List Nat, (intsN h).length = h.length := fun h => by simp
  refine Ex.cons (T.assign (d := .list ((intsN (numN (hmL z fa wd) M)).map .int)) (T.ev (T.call (by tb_rel) (T.arg (T.nLI (by tb_rel)) (T.arg (T.lst1 (T.bin (T.itemI (T.nLI (by tb_rel)) Ev.int (by decide) (by rw [hil, hHl]; omega) (by rw [hil, hHl]; omega) (fun _ _ => rfl)) (T.nI (by tb_rel)) op_add) (fun _ => rfl)) EvL.nil fun _ => rfl) fun _ => rfl) (Fn.up (concatL_fn (by rw [hil, hHl]; simp; omega)) (by decide)) (fun _ => rfl) (fun _ => rfl)) (by rw [← numN_ints]; rfl)) (by ke_reads) ?_ (fun _ => rfl))
  refine Ex.cons (Ex1.for (It.range1 (n := z) (Has.mem (by tb_rel)) (f := .fr) (T.nI (by tb_rel)) (by omega) (fun _ => rfl))
    (fun i ρ => ∃ st le, (∀ v, st ≠ .glob v) ∧ (∀ v, le ≠ .glob v) ∧ ρ = RW sc (.val (.list (([c0, c1, c2, c3] : List Int).map .int))) (.val (.int (z : Int))) (.val (.int (fa : Int))) (.val (.list (wd.map .int))) (.val (.list ((intsN (rotN (hmL z fa wd) i)).map .int))) (.val (.int (n : Int))) (.val (.int ((moreN M fa wd i : Nat) : Int))) (.val (.int (s : Int))) (.val (.list ((intsN (numN (rotN (hmL z fa wd) i) (moreN M fa wd i))).map .int))) st le)
    ⟨.free, .free, (fun _ h => nomatch h), (fun _ h => nomatch h), rfl⟩ ?_ ?_ (fun _ _ => rfl))
  · rintro i ρi d ⟨st, le, hst, hle, rfl⟩ hd
    obtain ⟨hi, rfl⟩ := upI_get hd
    refine ⟨_, .tail (.tail (.tail (.tail (.tail (.tail (.tail (.tail (.tail (.tail (.head hst)))))))))), ?_⟩
    have hRi := hRl i
    have hand := ok.and i hi
    have hnext := ok.next i hi
    have hsm := ok.small i hi
    have ei : ((i : Nat) : Int).toNat = i := Int.toNat_natCast i
    refine Ex.cons (T.assign (d := .int ((2 ^ (z - i) : Nat) : Int)) (T.ev (by ktr_rel) (by rw [show ((z : Int) - (i : Int)).toNat = z - i by omega]; simp)) (.tail (.tail (.tail (.tail (.tail (.tail (.tail (.tail (.tail (.tail (.tail (.head hle)))))))))))) ?_ (fun _ => rfl))
    have hPp : 0 < ((2 ^ (z - i) : Nat) : Int) := by
      have := Nat.pow_pos (n := z - i) (by decide : 0 < 2)
      omega
    generalize 2 ^ (z - i) = P at hand hPp ⊢
    have hNl : (numN (rotN (hmL z fa wd) i) (moreN M fa wd i)).length = z + 1 := by unfold numN; rw [List.length_append, hRi]; rfl
    have hround : ∀ v, Fn w 3 (.ref 163) [.list ((intsN (numN (rotN (hmL z fa wd) i) (moreN M fa wd i))).map .int), .int fa, .int n, .int s, .int v] (.list ((intsN (numN (rotN (hmL z fa wd) (i + 1)) (moreN M fa wd (i + 1)))).map .int)) := by
      intro v
      have := round_fn (w := w) (v := v) (by omega : (numN (rotN (hmL z fa wd) i) (moreN M fa wd i)).length ≤ 5) hn1 (by omega : n ≤ 3) f1 f15 hsm ok.s1 ok.s2
      rwa [round_ints, hnext] at this
    have hsm2 : ∀ x ∈ numN (rotN (hmL z fa wd) (i + 1)) (moreN M fa wd (i + 1)), x ≤ 700 := by
      rw [← hnext]
      intro x hx
      obtain ⟨y, hy, rfl⟩ := List.mem_map.mp hx
      exact Nat.le_trans (Nat.div_le_self _ _) (hsm y hy).2.2
    have hh0 : (rotN (hmL z fa wd) i).getD 0 0 ≤ 700 := by
      have h0 : 0 < (rotN (hmL z fa wd) i).length := by omega
      have hm : (rotN (hmL z fa wd) i)[0] ∈ numN (rotN (hmL z fa wd) i) (moreN M fa wd i) := List.mem_append_left _ (List.getElem_mem h0)
      rw [List.getD_eq_getElem?_getD, List.getElem?_eq_getElem h0]
      have := (hsm _ hm).2.1
      simp only [Option.getD_some]; omega
    have hlo : (rotN (hmL z fa wd) i).getD 0 0 % P ≤ 700 := Nat.le_trans (Nat.mod_le _ _) hh0
    have e0 : (intsN (rotN (hmL z fa wd) i)).getD (0 : Int).toNat 0 = (((rotN (hmL z fa wd) i).getD 0 0 : Nat) : Int) := intsN_getD _ 0
    have hstr : Fn w 3 (.type "str") [.int (((rotN (hmL z fa wd) i).getD 0 0 % P : Nat) : Int)] (.str (strI (((rotN (hmL z fa wd) i).getD 0 0 % P : Nat) : Int))) := fn_str (by omega) (by omega)
    have hzl : (intsN (rotN (hmL z fa wd) i)).length ≤ 16777216 := by rw [hil, hRi]; omega
    have h0l : (0 : Int) < ((intsN (rotN (hmL z fa wd) i)).length : Nat) := by rw [hil, hRi]; omega
    refine Ex.cons (Ex1.ite (b := false) (T.tr (T.tcmp
      (T.call (by tb_rel) (T.arg (T.ev (d' := .int (((rotN (hmL z fa wd) i).getD 0 0 % P : Nat) : Int)) (T.call (by tb_rel) (T.arg (by ktr_rel) (T.arg (Ev.itemLast (i := -1) (d := .int (((rotN (hmL z fa wd) i).getD 0 0 + moreN M fa wd i : Nat) : Int)) (T.nLI (by tb_rel)) (T.neg Ev.int) (by rfl) (by unfold numN intsN; simp) (fun _ _ => rfl)) EvL.nil fun _ => rfl) fun _ => rfl) (Fn.up and_fn (by decide)) (fun _ => rfl) (fun _ => rfl)) (by rw [hand])) EvL.nil fun _ => rfl) hstr (fun _ => rfl) (fun _ => rfl))
      (T.call (by tb_rel) (T.arg (T.ev (d' := .int (((rotN (hmL z fa wd) i).getD 0 0 % P : Nat) : Int)) (T.bin (T.itemI (T.nLI (by tb_rel)) Ev.int (by decide) h0l hzl (fun _ _ => rfl)) (T.nI (by tb_rel)) (op_mod hPp)) (by rw [e0]; simp)) EvL.nil fun _ => rfl) hstr (fun _ => rfl) (fun _ => rfl))
      op_neS (by with_unfolding_all rfl)) (by simp)) (fun h => nomatch h) (fun _ => ?_))
    refine Ex.nil ?_
    refine Ex.cons (T.assign (T.call (by tb_rel) (T.arg (T.nLI (by tb_rel)) (T.arg (T.nI (by tb_rel)) (T.arg (T.nI (by tb_rel)) (T.arg (T.nI (by tb_rel)) (T.arg (by ktr_rel) EvL.nil fun _ => rfl) fun _ => rfl) fun _ => rfl) fun _ => rfl) fun _ => rfl) (hround _) (fun _ => rfl) (fun _ => rfl)) (.tail (.tail (.tail (.tail (.tail (.tail (.tail (.tail (.tail (.head fun _ h => nomatch h)))))))))) ?_ (fun _ => rfl))
    have hfb : (bif wd.getD ((i : Nat) : Int).toNat 0 == 1 then (fa : Int) else 1).natAbs < 2 ^ 63 := by cases wd.getD ((i : Nat) : Int).toNat 0 == 1 <;> simp <;> omega
    have hiw : ((i : Nat) : Int) < (wd.length : Nat) := by omega
    refine Ex.cons (T.assign (d := .int ((moreN M fa wd (i + 1) : Nat) : Int)) (T.ev (by ktr_rel) (by rw [ei, more_ints])) (.tail (.tail (.tail (.tail (.tail (.tail (.tail (.head fun _ h => nomatch h)))))))) ?_ (fun _ => rfl))
    refine Ex.cons (T.assign (d := .list ((intsN (rotN (hmL z fa wd) (i + 1))).map .int)) (T.ev (T.bin (T.dropI (T.nLI (by tb_rel)) Ev.int (by decide) hzl (fun _ _ => rfl)) (T.takeI (T.nLI (by tb_rel)) Ev.int (by decide) hzl (fun _ _ => rfl)) (o_addLI (by rw [List.length_drop, List.length_take, hil, hRi]; omega))) (by rw [← rot_ints]; rfl)) (.tail (.tail (.tail (.tail (.tail (.head fun _ h => nomatch h)))))) ?_ (fun _ => rfl))
    have hRi1 := hRl (i + 1)
    have hzl1 : (intsN (rotN (hmL z fa wd) (i + 1))).length ≤ 16777216 := by rw [hil, hRi1]; omega
    have h0l1 : (0 : Int) < ((intsN (rotN (hmL z fa wd) (i + 1))).length : Nat) := by rw [hil, hRi1]; omega
    have hNl1 : (intsN (numN (rotN (hmL z fa wd) (i + 1)) (moreN M fa wd (i + 1)))).length ≤ 16777216 := by
      rw [hil]; unfold numN; rw [List.length_append, hRi1]; simp; omega
    have hbd : ∀ j ∈ intsN (numN (rotN (hmL z fa wd) (i + 1)) (moreN M fa wd (i + 1))), -4611686018427387904 < j ∧ j < 4611686018427387904 := by
      intro j hj
      obtain ⟨y, hy, rfl⟩ := List.mem_map.mp hj
      have := hsm2 y hy
      omega
    have hok : (((intsN (numN (rotN (hmL z fa wd) (i + 1)) (moreN M fa wd (i + 1)))).map strI).all PyData.strOk) = true := by
      refine List.all_eq_true.mpr fun x hx => ?_
      obtain ⟨y, _, rfl⟩ := List.mem_map.mp hx
      exact strOk_of _
    refine Ex.cons (Ex1.ite (b := false) (T.tr (T.tcmp
      (str_ints (T.nLI (by tb_rel)) hbd hNl1 (fun _ _ => rfl))
      (str_ints (T.ev (d' := .list ((intsN (numN (rotN (hmL z fa wd) (i + 1)) (moreN M fa wd (i + 1)))).map .int)) (T.bin (T.nLI (by tb_rel)) (T.lst1 (T.bin (T.itemI (T.nLI (by tb_rel)) Ev.int (by decide) h0l1 hzl1 (fun _ _ => rfl)) (T.nI (by tb_rel)) op_add) (fun _ => rfl)) (o_addLI (by rw [hil, hRi1]; simp; omega))) (by rw [← numN_ints]; rfl)) hbd hNl1 (fun _ _ => rfl))
      (op_neLS hok hok) (by with_unfolding_all rfl)) (by simp)) (fun h => nomatch h) (fun _ => ?_))
    refine Ex.nil ?_
    exact Ex.nil ⟨.val (.int (i : Int)), .val (.int (P : Int)), (fun _ h => nomatch h), (fun _ h => nomatch h), rfl⟩
  · rintro ρ' ⟨st, le, hst, hle, rfl⟩
    exact Ex.cons (T.ret Ev.bool rfl)
end PartN6
section PartN7
theorem items_int {R : WRecords} : ∀ {xs : List WData}, WShape.hasItems R xs .int = true → ∃ is : List Int, xs = is.map .int
  | [], _ => ⟨[], rfl⟩
  | x :: xs, h => by
    have h' : WShape.has R x .int = true ∧ WShape.hasItems R xs .int = true := by simpa [WShape.hasItems] using h
    obtain ⟨i, rfl⟩ := hasW_int h'.1
    obtain ⟨is, rfl⟩ := items_int h'.2
    exact ⟨i :: is, rfl⟩
theorem well_ints {P : Params} {h : Heap} {Pa : Addr → Prop} : ∀ {vs : List Value} {is : List Int}, WellAll P h vs (is.map .int) → RdL h Pa vs (is.map .int)
  | [], [], _ => .nil
  | [], _ :: _, x => nomatch x
  | _ :: _, [], x => nomatch x
  | v :: vs, i :: is, x => by
    obtain ⟨h1, h2⟩ := wellAll_head x
    cases h1 with
    | int i t => exact .cons (.int i t) (well_ints h2)
theorem well_one {P : Params} {h : Heap} {vs : List Value} {d : WData} (x : WellAll P h vs [d]) : ∃ v, vs = [v] ∧ Well P h v d := by
  cases x with | cons a b => cases b; exact ⟨_, rfl, a⟩
theorem well_list {P : Params} {h : Heap} {v : Value} {xs : List WData} (x : Well P h v (.list xs)) : ∃ a vs, v = .ref a ∧ h.get? a = some { cls := .type "list", data := .seq vs.toArray } ∧ WellAll P h vs xs := by
  cases x with | list h1 h2 => exact ⟨_, _, rfl, h1, h2⟩
theorem walkK : MineHead.WalkK := by
  intro q loose XP d kwd hname w s₀ s₁ mg mb G Y tb fa o pm cd doc dV kV ho hd hcd hD hmg hg args vals as hpre hlay hrd hwl hlo
  have KX : (MineHead.heapK w.params).In s₁.heap := kIn_of (K := MineHead.heapK) (as := MineHead.asK) Y
  have X : Wd w s₁.heap := ⟨KX, _, _, _, _, _, G.T⟩
  have e168 : mg (Str.ofString "law") = some (.ref 168) := mg_of KX G.T.g (by k_is)
  rw [hname] at hmg
  have e : (some (Value.ref fa) : Option Value) = some (.ref 168) := hmg.symm.trans e168
  cases e
  have hsh := (pre_splitW hpre).1
  have hcond := (pre_splitW hpre).2
  obtain ⟨d, r, rfl, hx, hr⟩ := hasAllW_cons hsh
  cases hasAllW_nil hr
  obtain ⟨xs, rfl, hit⟩ := hasW_list hx
  obtain ⟨is, rfl⟩ := items_int hit
  have hlen : is.length ≤ 1000000 := by
    obtain ⟨h1, _⟩ := holds_andW hcond
    have hc := condW_of h1 (by wtm_val)
    simp at hc
    omega
  obtain ⟨v, rfl, h1⟩ := well_one hwl
  obtain ⟨a, vs, rfl, hoa, hw⟩ := well_list h1
  refine (law_fn hlen).run (P := fun _ => True) ?_ X tb (.cons (.list ⟨_, _, hoa, rfl, rfl, rfl⟩ (well_ints (by simpa using hw)) trivial) .nil) fun v h' tk e rd => ?_
  · refine ⟨rfl, ?_, ?_⟩
    · decide +kernel
    · decide +kernel
  · cases rd.bool_inv
    refine GoodW.toG ⟨.inl ⟨.bool true, .bool true, [], rfl, ?_, .bool true, ?_, ?_⟩, e, rfl, hg⟩
    · intro cls; rfl
    · wrow_post
    · intro _; exact ⟨List.nodup_nil, fun _ h => nomatch h⟩
end PartN7
end Mine
end PartMine

section PartHead
open PySem PySem.W PyProof.Rows
namespace MineHead
/-- names that the twins of the largest written objects would bear: taken, so that those objects stand as they are and the compiled file stays small -/
def hd2.tw8094046622330391388 : Nat := 0
def hd2.tw17535907362955938908 : Nat := 0
def hd2.tw3039123856810637425 : Nat := 0
def hd2.tw6720817595655272101 : Nat := 0
def hd2.tw4307078131151001829 : Nat := 0
def hd2.tw9979510958252600200 : Nat := 0
def hd2.tw4024917234865973183 : Nat := 0
def hd2.tw12654014333306648133 : Nat := 0
def hd2.tw5410339212957656720 : Nat := 0
def hd2.tw11362939647382576780 : Nat := 0
def hd2.tw5525653419108458115 : Nat := 0
def hd2.tw7009672083644906629 : Nat := 0
def hd2.tw2873425895841790281 : Nat := 0
def hd2.tw10034794895524177610 : Nat := 0
def hd2.tw427999400194109000 : Nat := 0
def hd2.tw4237245754817281018 : Nat := 0
def hd2.tw6235746132112310255 : Nat := 0
def hd2.tw8662699976038793733 : Nat := 0
def hd2.tw9844617299809954662 : Nat := 0
def hd2.tw1193206425152906643 : Nat := 0
def hd2.tw3831694748713389590 : Nat := 0
def hd2.tw15533140639201471895 : Nat := 0
def hd2.tw13612170917665270565 : Nat := 0
set_option Elab.async true
theorem hd2 : PySem.Challenge.rw_tl0009_01.Holds := by
  w_on
  o_law
  o_head hookK
  case hw => w_witness2
  exact Mine.walkK _ _ _ _ _ rfl
end MineHead
end PartHead

theorem PySem.Challenge.cw_tl0009_01_holds : PySem.Challenge.rw_tl0009_01.Holds := by
  exact MineHead.hd2
