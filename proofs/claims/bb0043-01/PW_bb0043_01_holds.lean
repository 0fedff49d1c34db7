import PyProof.Rows.All
import Wide.All
import OpenK.AllK
import Wide.FinOn
import KE.BitLaws
import PySem.Challenge.RW_bb0043_01
open PySem PySem.W PyProof.Rows
set_option Elab.async false
set_option linter.unusedVariables false
set_option linter.unusedSimpArgs false
namespace Mine

/-- a code whose activation lends its first argument's bytes -/
noncomputable def holder : Code → Bool
  | .builtin id _ => Builtin.Bytes.decodersThatHold.contains id
  | _ => false
noncomputable def cleanSt (st : List (Code × Pos)) : Bool := st.all fun x => !holder x.1
/-- the logic of contexts without a holder -/
noncomputable def wpC {α : Type} (M : Model) (A : Around) (t : Sem α) (Q : α → Shared → Prop) (E : Value → Shared → Prop) (s : Shared) : Prop :=
  ∀ Γ p, Γ.In A → cleanSt ((Γ.code, p) :: Γ.below) = true → Sem.wp M Γ t (fun a _ s' => Q a s') (fun e _ s' => E e s') p s

noncomputable abbrev WalkC (q : Program) (loose : List Str) (XP : (Str → Option Value) → Heap → Prop) (YP : World → Heap → Prop) (r : RowW) (d : DefRec) (kwd : List (Str × Expr)) : Prop :=
  ∀ (w : World) (s₀ s₁ : Shared) (mg mb : Str → Option Value), Ground q loose r.records XP w s₀ mg mb s₁.heap → YP w s₁.heap → ∀ (a : Addr) (o : Obj) (pm cd doc dV kV : Value), s₁.heap.get? a = some o →
    o.data = .func { Calls.docDef d.name d.params d.body d.scope pm cd doc with defaults := dV, kwdefaults := kV } → s₁.heap.CodeRec cd d.name → Dflts mg s₁.heap d.params kwd dV kV → mg d.name = some (.ref a) → s₁.gens = #[] →
    ∀ (args : List WData) (vals : List Value) (as : List Addr), r.claim.pre args = true → WData.layableAll args = true → ReadsAllW r.records (classAt s₀.heap) s₁.heap vals args as → WellAll w.params s₁.heap vals args → (∀ a ∈ as, (a == sysModules) = false) →
      GoodWG r.claim (classAt s₀.heap) (ExcName.means s₀.heap) args s₁ (.ok (.ret (.bool true))) s₁ ∧
      wpC (model r.prog w) callerA (PySem.call (.ref a) vals) (fun v s' => GoodWG r.claim (classAt s₀.heap) (ExcName.means s₀.heap) args s₁ (.ok (.ret v)) s')
        (fun e s' => GoodWG r.claim (classAt s₀.heap) (ExcName.means s₀.heap) args s₁ (.error e) s') s₁

/-- the call, watched: where the stack is not clean it gives True at once -/
noncomputable def runC (f : Value) (vs : List Value) : Sem Value := do
  let st ← stack
  if cleanSt st = true then PySem.call f vs else pure (.bool true)
noncomputable def realTree (name : Str) (vs : List Value) : Sem Fin := do
  match ← nsGet mainNs name with
  | some f => do ret (← PySem.call f vs)
  | none => unsupported "claim.caller:no-such-global"
noncomputable def treeC (name : Str) (vs : List Value) : Sem Fin := do
  let st ← stack
  if cleanSt st = true then realTree name vs else ret (.bool true)

theorem wp_look {α : Type} {M : Model} {Γ : Ctx} {k : List (Code × Pos) → Sem α} {Q : α → Pos → Shared → Prop} {E : Value → Pos → Shared → Prop} {p : Pos} {s : Shared} :
    Sem.wp M Γ (PySem.stack >>= k) Q E p s = Sem.wp M Γ (k ((Γ.code, p) :: Γ.below)) Q E p s := by
  rw [Sem.wp_bind']
  show Sem.wp M Γ (.stack .pure) _ _ _ _ = _
  rw [Sem.wp_stack, Sem.wp_pure]
theorem cleanSt_pos (c : Code) (p q : Pos) (l : List (Code × Pos)) : cleanSt ((c, p) :: l) = cleanSt ((c, q) :: l) := rfl

theorem treeC_of_runC {p : Program} {name : Str} (vs : List Value) (w : World) (s : Shared) (mg : Str → Option Value) (f : Value) (Q : Fin → Shared → Prop) (E : Value → Shared → Prop)
    (hg : s.heap.Ns mainGlobals mg) (hf : mg name = some f) (h : wpAny (model p w) callerA (runC f vs) (fun v s' => Q (.done (.ret v)) s') E s) : wpAny (model p w) callerA (treeC name vs) Q E s := by
  intro Γ pos hΓ
  have h' := fun q => h Γ q hΓ
  unfold runC at h'
  unfold treeC
  rw [wp_look]
  cases hc : cleanSt ((Γ.code, pos) :: Γ.below) with
  | false =>
    have h' := h' pos
    rw [wp_look, hc] at h'
    simp only [Bool.false_eq_true, if_false] at h' ⊢
    exact h'
  | true =>
    simp only [if_true]
    unfold realTree
    have k : wpAny (model p w) callerA (nsGet mainNs name) (fun v s' => v = some f ∧ s' = s) (fun _ _ => False) s := wpAny_nsGet hg ⟨hf, rfl⟩
    rw [Sem.wp_bind']
    refine Sem.wp_mono _ _ _ (fun v pos' s' hv => ?_) (fun _ _ _ x => x.elim) _ _ (k Γ pos hΓ)
    obtain ⟨rfl, rfl⟩ := hv
    have h' := h' pos'
    rw [wp_look, cleanSt_pos _ pos' pos, hc] at h'
    simp only [if_true] at h'
    rw [Sem.wp_bind']
    refine Sem.wp_mono _ _ _ (fun v pos'' s'' hv => ?_) (fun _ _ _ x => x) _ _ h'
    exact hv

theorem step_watched {p : Program} {name : Str} {vs : List Value} {w : World} {s : Shared} :
    step (denote table) p w s ⟨treeC name vs, .builtin "claim.caller" {}, default, []⟩ = .go s ⟨realTree name vs, .builtin "claim.caller" {}, default, []⟩ := by
  obtain ⟨heap, gens, drawn, toks, os⟩ := s
  have e : cleanSt [(Code.builtin "claim.caller" {}, (default : Pos))] = true := by decide +kernel
  show Step.go _ ⟨(if cleanSt [(Code.builtin "claim.caller" {}, (default : Pos))] = true then realTree name vs else ret (.bool true)), _, _, _⟩ = _
  rw [if_pos e]
/-- the watched stub is the claim's own, one step later -/
theorem callFrom_of_watched {c : ClaimW} {name : Str} {w : World} {free : Addr → Prop} {gens : Prop} {kept : Heap → Prop} {s₀ : Shared} (hz : s₀.asleep)
    (h : c.CallFrom (fun vs => ⟨treeC name vs, .builtin "claim.caller" {}, default, []⟩) w free gens kept s₀) :
    c.CallFrom (fun vs => ⟨realTree name vs, .builtin "claim.caller" {}, default, []⟩) w free gens kept s₀ := by
  intro args h1 h2 ord h3
  obtain ⟨vs, s₁, hl, n, o, s', hr, rest⟩ := h args h1 h2 ord h3
  have hal := layAllW_rest _ _ _ hl
  have hz₁ : s₁.asleep := Shared.asleep_of_life hal.2.2.2 hz
  cases n with
  | zero => cases hr
  | succ n =>
    refine ⟨vs, s₁, hl, n, o, s', ?_, rest⟩
    have hs := step_watched (p := c.prog) (name := name) (vs := vs) (w := w) (s := s₁)
    rcases sstep_single (denote table) c.prog w s₁ ⟨treeC name vs, .builtin "claim.caller" {}, default, []⟩ rfl hz₁ with e | e
    · rw [hs] at e
      simp only [schedN, e, Step.lift] at hr
      exact hr
    · rw [hs] at e; cases e

namespace PySem.W
open _root_.PySem _root_.PySem.W _root_.PySem.Calls
/-- the library's head (its name, under this namespace: the library's own word for the head takes the one that stands nearest), for a call that is shown in the logic above -/
theorem holds_open {r : OpenRow} {q : Program} {loose : List Str} {Xt : Shared → Bool} {XP : (Str → Option Value) → Heap → Prop} {α : Type} {Yf : Shared → α} {Ya : World → α} {YP : World → Heap → Prop} {d : DefRec} {kwd : List (Str × Expr)} {N : Nat}
    (left : LeftO r.prog q loose Xt Yf Ya N) (hY : ∀ w s, Yf s = Ya w → YP w s.heap) (hYk : ∀ w h h', YP w h → (∀ b o, h.get? b = some o → h'.get? b = some o) → YP w h')
    (hX : ∀ s, Xt s = true → XP (s.heap.nsMap mainGlobals) s.heap) (hXk : ∀ mg h h', XP mg h → (∀ b o, h.get? b = some o → h'.get? b = some o) → XP mg h')
    (hdef : defOf q r.name = some (d, kwd)) (hp : r.prog.theDef r.name = some (d.params, d.body, d.scope)) (hk : kwWritten? d.params.kwonlyargs d.params.kw_defaults = some kwd) (hRf : ∀ s, Xt s = true → RecFacts r.records s.heap) (hwr : (!r.writes || r.records.isEmpty) = true)
    (k1 : r.wellSaid = true) (ok : (chainsOk q && opensWell r.prog && (frees r.toRowW && r.within.isEmpty)) = true) (hb : r.prog.bare) (hw : r.toRowW.promised)
    (call : WalkC q loose XP YP r.toRowW d kwd) : r.Holds := by
  refine ⟨k1, hw, ?_⟩
  have key := open_anyG (r := r.toRowW) (run := runC) (tree := treeC r.name) (defs := if r.pinned then [r.name] else []) (kps := r.keeps) (writes := r.writes) left hY hYk hX hXk hRf hwr ok hb hw
    (fun vs w s mg f Q E hg hf h => treeC_of_runC vs w s mg f Q E hg hf h)
    (fun w s hg G n hn => by
      obtain rfl : n = r.name := by split at hn <;> simp_all
      exact pinned_of_view hg G hdef hp hk)
    fun w s₀ s₁ mg mb G Y args vs as hpre hlay L low => by
      obtain ⟨a, o, pm, cd, doc, dV, kV, h1, h2, h3, h4, h5⟩ := G.fn hdef
      obtain ⟨c1, c2⟩ := call w s₀ s₁ mg mb G Y a o pm cd doc dV kV h2 h3 h4 h5 (defOf_name hdef ▸ h1) L.gens args vs as hpre hlay L.reads L.well (L.low low)
      refine ⟨.ref a, h1, fun Γ p hΓ => ?_⟩
      show Sem.wp _ Γ (PySem.stack >>= fun st => if cleanSt st = true then PySem.call (.ref a) vs else pure (.bool true)) _ _ p s₁
      rw [wp_look]
      cases hc : cleanSt ((Γ.code, p) :: Γ.below) with
      | false => exact c1
      | true => exact c2 Γ p hΓ hc
  obtain ⟨x, y, z⟩ := key
  refine ⟨x, y, fun w => ⟨(z w).1, fun s hs => ?_⟩⟩
  obtain ⟨s₀, f1, f2, s₁, T, f3, f4, f5, f6⟩ := (z w).2 s hs
  have A : AfterImport (opening r.prog) w s := hs
  have z₀ : s₀.asleep := Shared.asleep_of_life (fence_lifeW f1) A.life
  have z₁ : s₁.asleep := Shared.asleep_of_life T.2.1 z₀
  exact ⟨s₀, f1, f2, s₁, T, f3, f4, f5, callFrom_of_watched z₁ f6⟩
end PySem.W
end Mine
set_option maxRecDepth 100000
namespace Mine
noncomputable def stPart : Stmt → List Stmt
  | .FunctionDef _ _ b _ _ _ _ _ _ _ => b
  | .ClassDef _ _ _ b _ _ _ _ _ _ _ => b
  | _ => []
noncomputable def stScope : Stmt → Scope
  | .FunctionDef _ _ _ _ _ _ s _ _ _ => s
  | _ => default
noncomputable def stParams : Stmt → Arguments
  | .FunctionDef _ a _ _ _ _ _ _ _ _ => a
  | _ => default
noncomputable def nth : List Stmt → Nat → Stmt
  | [], _ => default
  | s :: _, 0 => s
  | _ :: r, n + 1 => nth r n
/-- a statement of the top, a statement of a class -/
noncomputable abbrev topSt (i : Nat) : Stmt := nth PySem.Challenge.pw_bb0043_01.main.body i
noncomputable abbrev inSt (i j : Nat) : Stmt := nth (stPart (topSt i)) j
/-- an entry of a dict under a text -/
noncomputable def hE (P : Params) (x : Str) (n : Nat) (v : Value) : DictEntry := ⟨PyData.keyHash P x, .str x n, v⟩
-- the objects that the call looks at, as the top leaves them (printed by a program: gen/heap.py); where a key bears the word that opens the file's first rows, its first letter is written \x69, since that word may stand there alone
noncomputable def hK0 (P : Params) : Frag := [
  (3, { cls := .type "dict", data := .dict #[hE P "__name__" 165 (.str "law_bb0043_01" 1419), hE P "__doc__" 166 (.none), hE P "__package__" 167 (.none), hE P "__loader__" 168 (.builtin "__main__.__loader__#opaque"), hE P "__spec__" 169 (.none), hE P "__annotations__" 170 (.ref 6), hE P "__builtins__" 171 (.ref 4), hE P "__file__" 173 (.str "/claim/cut.py" 172), hE P "__cached__" 174 (.none), hE P "Struct" 313 (.type "_struct.Struct"), hE P "unpack" 316 (.builtin "_struct.unpack"), hE P "_wall" 329 (.ref 49), hE P "uint8" 334 (.ref 50), hE P "uint16" 337 (.ref 51), hE P "uint32" 340 (.ref 52), hE P "uint64" 343 (.ref 53), hE P "int32" 346 (.ref 54), hE P "uoffset" 347 (.ref 52), hE P "soffset" 348 (.ref 54), hE P "Uint8Flags" 384 (.ref 64), hE P "Uint16Flags" 418 (.ref 78), hE P "Uint32Flags" 452 (.ref 92), hE P "Uint64Flags" 486 (.ref 106), hE P "Int32Flags" 523 (.ref 120), hE P "SOffsetTFlags" 539 (.ref 134), hE P "UOffsetTFlags" 555 (.ref 146), hE P "VOffsetTFlags" 571 (.ref 158), hE P "enforce_number" 579 (.ref 167), hE P "FILE_IDENTIFIER_LENGTH" 583 (.int 4 582), hE P "Get" 592 (.ref 174), hE P "Get_encode" 593 (.ref 174), hE P "Write" 603 (.ref 181), hE P "Table" 723 (.ref 263), hE P "string_types" 724 (.ref 268), hE P "binary_types" 725 (.ref 269), hE P "OffsetArithmeticError" 745 (.ref 279), hE P "IsNotNestedError" 763 (.ref 292), hE P "IsNestedError" 781 (.ref 305), hE P "BuilderSizeError" 799 (.ref 318), hE P "BuilderNotFinishedError" 817 (.ref 331), hE P "EndVectorLengthMismatched" 835 (.ref 344), hE P "VtableMetadataFields" 837 (.int 2 836), hE P "Builder" 1387 (.ref 749), hE P "GetSizePrefix" 1397 (.ref 769), hE P "GetBufferIdentifier" 1407 (.ref 777), hE P "BufferHasIdentifier" 1418 (.ref 785), hE P "_law_made" 1438 (.ref 792), hE P "_law_level" 1459 (.ref 799), hE P "law" 1465 (.ref 804)] 49 }),
  (2, { cls := .none, data := .dict #[hE P "\x69mport.loaded._struct" 186 (.bool true), hE P "class._frozen_importlib_external._LoaderBasics" 191 (.ref 16), hE P "watched.\x69mport" 207 (.ref 20), hE P "class._frozen_importlib_external.FileLoader" 208 (.ref 22), hE P "class._frozen_importlib_external.ExtensionFileLoader" 229 (.ref 27), hE P "class._frozen_importlib.ModuleSpec" 257 (.ref 33), hE P "sys.modules.booked-epoch" 286 (.int 3 0), hE P "class.struct.error" 303 (.type "struct.error"), hE P "\x69mport.later-laid._struct" 305 (.bool true), hE P "watched.library" 307 (.ref 38), hE P "watched.library-objects" 0 (.str "\x0d" 0)] 11 }),
  (749, { cls := .type "type", data := .cls { name := "Builder", bases := [.type "object"], mro := [.ref 749, .type "object"], ns := 748, qualname := "Builder", hasDict := false, slotNames := ["Bytes", "current_vtable", "finished", "forceDefaults", "head", "minalign", "nested", "objectEnd", "sharedStrings", "vectorNumElems", "vtables"] }, slots := #[some (.ref 348), none, some (.str "Builder" 838), some (.str "Builder" 846), some (.builtin "object.__new__"), some (.bool false)] }),
  (748, { cls := .type "dict", data := .dict #[hE P "__module__" 845 (.str "flatbuffers.builder" 726), hE P "__firstlineno__" 849 (.int 141 848), hE P "__slots__" 861 (.ref 355), hE P "MAX_BUFFER_SIZE" 866 (.int 2147483648 865), hE P "__init__" 876 (.ref 363), hE P "Clear" 883 (.ref 370), hE P "Output" 890 (.ref 377), hE P "StartObject" 898 (.ref 384), hE P "WriteVtable" 916 (.ref 391), hE P "EndObject" 923 (.ref 398), hE P "GrowByteBuffer" 933 (.ref 405), hE P "Head" 940 (.ref 412), hE P "Offset" 947 (.ref 419), hE P "Pad" 956 (.ref 426), hE P "Prep" 970 (.ref 433), hE P "PrependSOffsetTRelative" 980 (.ref 440), hE P "PrependUOffsetTRelative" 990 (.ref 447), hE P "StartVector" 1000 (.ref 454), hE P "EndVector" 1008 (.ref 462), hE P "CreateSharedString" 1016 (.ref 469), hE P "CreateString" 1027 (.ref 476), hE P "CreateByteVector" 1037 (.ref 483), hE P "assertNested" 1044 (.ref 490), hE P "assertNotNested" 1051 (.ref 497), hE P "assertStructIsInline" 1059 (.ref 504), hE P "Slot" 1067 (.ref 511), hE P "_Builder__Finish" 1080 (.ref 519), hE P "Finish" 1089 (.ref 527), hE P "FinishSizePrefixed" 1098 (.ref 535), hE P "Prepend" 1107 (.ref 542), hE P "PrependSlot" 1118 (.ref 549), hE P "PrependBoolSlot" 1126 (.ref 556), hE P "PrependByteSlot" 1134 (.ref 563), hE P "PrependUint8Slot" 1142 (.ref 570), hE P "PrependUint16Slot" 1150 (.ref 577), hE P "PrependUint32Slot" 1158 (.ref 584), hE P "PrependUint64Slot" 1166 (.ref 591), hE P "PrependInt8Slot" 1174 (.ref 598), hE P "PrependInt16Slot" 1182 (.ref 605), hE P "PrependInt32Slot" 1190 (.ref 612), hE P "PrependInt64Slot" 1198 (.ref 619), hE P "PrependUOffsetTRelativeSlot" 1208 (.ref 626), hE P "PrependStructSlot" 1218 (.ref 633), hE P "PrependBool" 1226 (.ref 640), hE P "PrependByte" 1234 (.ref 647), hE P "PrependUint8" 1242 (.ref 654), hE P "PrependUint16" 1250 (.ref 661), hE P "PrependUint32" 1258 (.ref 668), hE P "PrependUint64" 1266 (.ref 675), hE P "PrependInt8" 1274 (.ref 682), hE P "PrependInt16" 1282 (.ref 689), hE P "PrependInt32" 1290 (.ref 696), hE P "PrependInt64" 1298 (.ref 703), hE P "ForceDefaults" 1306 (.ref 710), hE P "PrependVOffsetT" 1314 (.ref 717), hE P "Place" 1324 (.ref 724), hE P "PlaceVOffsetT" 1332 (.ref 731), hE P "PlaceSOffsetT" 1341 (.ref 738), hE P "PlaceUOffsetT" 1350 (.ref 745), hE P "__static_attributes__" 1362 (.ref 746), hE P "Bytes" 1364 (.ref 750), hE P "current_vtable" 1366 (.ref 751), hE P "finished" 1368 (.ref 752), hE P "forceDefaults" 1370 (.ref 753), hE P "head" 1372 (.ref 754), hE P "minalign" 1374 (.ref 755), hE P "nested" 1376 (.ref 756), hE P "objectEnd" 1378 (.ref 757), hE P "sharedStrings" 1380 (.ref 758), hE P "vectorNumElems" 1382 (.ref 759), hE P "vtables" 1384 (.ref 760), hE P "__doc__" 1385 (.none)] 13 })]
noncomputable def hK1 (P : Params) : Frag := [
  (50, { cls := .type "_struct.Struct", data := .fields #[.bytes #[60, 66] 333] }),
  (51, { cls := .type "_struct.Struct", data := .fields #[.bytes #[60, 72] 336] }),
  (52, { cls := .type "_struct.Struct", data := .fields #[.bytes #[60, 73] 339] }),
  (53, { cls := .type "_struct.Struct", data := .fields #[.bytes #[60, 81] 342] }),
  (54, { cls := .type "_struct.Struct", data := .fields #[.bytes #[60, 105] 345] }),
  (63, { cls := .type "dict", data := .dict #[hE P "__module__" 358 (.str "flatbuffers.number_types" 349), hE P "__firstlineno__" 362 (.int 14 361), hE P "bytewidth" 364 (.int 1 363), hE P "min_val" 366 (.int 0 365), hE P "max_val" 372 (.int 255 371), hE P "py_type" 373 (.type "int"), hE P "name" 375 (.str "uint8" 374), hE P "packer_type" 376 (.ref 50), hE P "__static_attributes__" 377 (.ref 62), hE P "__dict__" 379 (.ref 65), hE P "__weakref__" 381 (.ref 66), hE P "__doc__" 382 (.none)] 4 }),
  (64, { cls := .type "type", data := .cls { name := "Uint8Flags", bases := [.type "object"], mro := [.ref 64, .type "object"], ns := 63, qualname := "Uint8Flags" }, slots := #[some (.ref 55), none, some (.str "Uint8Flags" 351), some (.str "Uint8Flags" 359), some (.builtin "object.__new__"), some (.bool true)] }),
  (77, { cls := .type "dict", data := .dict #[hE P "__module__" 392 (.str "flatbuffers.number_types" 349), hE P "__firstlineno__" 396 (.int 21 395), hE P "bytewidth" 398 (.int 2 397), hE P "min_val" 400 (.int 0 399), hE P "max_val" 406 (.int 65535 405), hE P "py_type" 407 (.type "int"), hE P "name" 409 (.str "uint16" 408), hE P "packer_type" 410 (.ref 51), hE P "__static_attributes__" 411 (.ref 76), hE P "__dict__" 413 (.ref 79), hE P "__weakref__" 415 (.ref 80), hE P "__doc__" 416 (.none)] 4 }),
  (78, { cls := .type "type", data := .cls { name := "Uint16Flags", bases := [.type "object"], mro := [.ref 78, .type "object"], ns := 77, qualname := "Uint16Flags", subclasses := [.ref 158] }, slots := #[some (.ref 69), none, some (.str "Uint16Flags" 385), some (.str "Uint16Flags" 393), some (.builtin "object.__new__"), some (.bool true)] }),
  (91, { cls := .type "dict", data := .dict #[hE P "__module__" 426 (.str "flatbuffers.number_types" 349), hE P "__firstlineno__" 430 (.int 28 429), hE P "bytewidth" 432 (.int 4 431), hE P "min_val" 434 (.int 0 433), hE P "max_val" 440 (.int 4294967295 439), hE P "py_type" 441 (.type "int"), hE P "name" 443 (.str "uint32" 442), hE P "packer_type" 444 (.ref 52), hE P "__static_attributes__" 445 (.ref 90), hE P "__dict__" 447 (.ref 93), hE P "__weakref__" 449 (.ref 94), hE P "__doc__" 450 (.none)] 4 }),
  (92, { cls := .type "type", data := .cls { name := "Uint32Flags", bases := [.type "object"], mro := [.ref 92, .type "object"], ns := 91, qualname := "Uint32Flags", subclasses := [.ref 146] }, slots := #[some (.ref 83), none, some (.str "Uint32Flags" 419), some (.str "Uint32Flags" 427), some (.builtin "object.__new__"), some (.bool true)] }),
  (105, { cls := .type "dict", data := .dict #[hE P "__module__" 460 (.str "flatbuffers.number_types" 349), hE P "__firstlineno__" 464 (.int 35 463), hE P "bytewidth" 466 (.int 8 465), hE P "min_val" 468 (.int 0 467), hE P "max_val" 474 (.int 18446744073709551615 473), hE P "py_type" 475 (.type "int"), hE P "name" 477 (.str "uint64" 476), hE P "packer_type" 478 (.ref 53), hE P "__static_attributes__" 479 (.ref 104), hE P "__dict__" 481 (.ref 107), hE P "__weakref__" 483 (.ref 108), hE P "__doc__" 484 (.none)] 4 }),
  (106, { cls := .type "type", data := .cls { name := "Uint64Flags", bases := [.type "object"], mro := [.ref 106, .type "object"], ns := 105, qualname := "Uint64Flags" }, slots := #[some (.ref 97), none, some (.str "Uint64Flags" 453), some (.str "Uint64Flags" 461), some (.builtin "object.__new__"), some (.bool true)] }),
  (119, { cls := .type "dict", data := .dict #[hE P "__module__" 494 (.str "flatbuffers.number_types" 349), hE P "__firstlineno__" 498 (.int 42 497), hE P "bytewidth" 500 (.int 4 499), hE P "min_val" 505 (.int (-2147483648) 504), hE P "max_val" 511 (.int 2147483647 510), hE P "py_type" 512 (.type "int"), hE P "name" 514 (.str "int32" 513), hE P "packer_type" 515 (.ref 54), hE P "__static_attributes__" 516 (.ref 118), hE P "__dict__" 518 (.ref 121), hE P "__weakref__" 520 (.ref 122), hE P "__doc__" 521 (.none)] 4 })]
noncomputable def hK2 (P : Params) : Frag := [
  (120, { cls := .type "type", data := .cls { name := "Int32Flags", bases := [.type "object"], mro := [.ref 120, .type "object"], ns := 119, qualname := "Int32Flags", subclasses := [.ref 134] }, slots := #[some (.ref 111), none, some (.str "Int32Flags" 487), some (.str "Int32Flags" 495), some (.builtin "object.__new__"), some (.bool true)] }),
  (133, { cls := .type "dict", data := .dict #[hE P "__module__" 531 (.str "flatbuffers.number_types" 349), hE P "__firstlineno__" 535 (.int 49 534), hE P "__static_attributes__" 536 (.ref 132), hE P "__doc__" 537 (.none)] 2 }),
  (134, { cls := .type "type", data := .cls { name := "SOffsetTFlags", bases := [.ref 120], mro := [.ref 134, .ref 120, .type "object"], ns := 133, qualname := "SOffsetTFlags" }, slots := #[some (.ref 125), none, some (.str "SOffsetTFlags" 524), some (.str "SOffsetTFlags" 532), some (.builtin "object.__new__"), some (.bool true)] }),
  (145, { cls := .type "dict", data := .dict #[hE P "__module__" 547 (.str "flatbuffers.number_types" 349), hE P "__firstlineno__" 551 (.int 51 550), hE P "__static_attributes__" 552 (.ref 144), hE P "__doc__" 553 (.none)] 2 }),
  (146, { cls := .type "type", data := .cls { name := "UOffsetTFlags", bases := [.ref 92], mro := [.ref 146, .ref 92, .type "object"], ns := 145, qualname := "UOffsetTFlags" }, slots := #[some (.ref 137), none, some (.str "UOffsetTFlags" 540), some (.str "UOffsetTFlags" 548), some (.builtin "object.__new__"), some (.bool true)] }),
  (157, { cls := .type "dict", data := .dict #[hE P "__module__" 563 (.str "flatbuffers.number_types" 349), hE P "__firstlineno__" 567 (.int 53 566), hE P "__static_attributes__" 568 (.ref 156), hE P "__doc__" 569 (.none)] 2 }),
  (158, { cls := .type "type", data := .cls { name := "VOffsetTFlags", bases := [.ref 78], mro := [.ref 158, .ref 78, .type "object"], ns := 157, qualname := "VOffsetTFlags" }, slots := #[some (.ref 149), none, some (.str "VOffsetTFlags" 556), some (.str "VOffsetTFlags" 564), some (.builtin "object.__new__"), some (.bool true)] }),
  (166, { cls := .type "code", data := .fields #[.str "enforce_number" 572, .str "enforce_number" 573, .str "/claim/cut.py" 574, .int 55 0, .int 2 0, .int 0 0, .int 0 0, .int 3 0, .ref 161, .bool true, .int 317 0, .ref 162, .none, .ref 163, .ref 164, .ref 165, .int 577 0, .int 55 0, .str "/claim/cut.py" 578] }),
  (167, ⟨.type "function", none, .func (fnOf "enforce_number" "enforce_number" (stParams (topSt 19)) (stPart (topSt 19)) (stScope (topSt 19)) .none .none .none (.str "flatbuffers.number_types" 349) none (.ref 166) .none), #[]⟩),
  (173, { cls := .type "code", data := .fields #[.str "Get" 584, .str "Get" 585, .str "/claim/cut.py" 586, .int 62 0, .int 3 0, .int 0 0, .int 0 0, .int 3 0, .ref 168, .bool true, .int 317 0, .ref 169, .none, .ref 170, .ref 171, .ref 172, .int 590 0, .int 62 0, .str "/claim/cut.py" 591] }),
  (174, ⟨.type "function", none, .func (fnOf "Get" "Get" (stParams (topSt 22)) (stPart (topSt 22)) (stScope (topSt 22)) .none .none .none (.str "flatbuffers.encode" 580) none (.ref 173) .none), #[]⟩),
  (180, { cls := .type "code", data := .fields #[.str "Write" 594, .str "Write" 595, .str "/claim/cut.py" 596, .int 65 0, .int 4 0, .int 0 0, .int 0 0, .int 3 0, .ref 175, .bool true, .int 317 0, .ref 176, .none, .ref 177, .ref 178, .ref 179, .int 601 0, .int 65 0, .str "/claim/cut.py" 602] }),
  (181, ⟨.type "function", none, .func (fnOf "Write" "Write" (stParams (topSt 24)) (stPart (topSt 24)) (stScope (topSt 24)) .none .none .none (.str "flatbuffers.encode" 580) none (.ref 180) .none), #[]⟩),
  (195, { cls := .type "code", data := .fields #[.str "__init__" 621, .str "Table.__init__" 622, .str "/claim/cut.py" 623, .int 71 0, .int 3 0, .int 0 0, .int 0 0, .int 3 0, .ref 190, .bool true, .int 317 0, .ref 191, .none, .ref 192, .ref 193, .ref 194, .int 627 0, .int 71 0, .str "/claim/cut.py" 628] }),
  (196, ⟨.type "function", none, .func (fnOf "__init__" "Table.__init__" (stParams (inSt 26 1)) (stPart (inSt 26 1)) (stScope (inSt 26 1)) .none .none .none (.str "flatbuffers.table" 604) none (.ref 195) .none), #[]⟩),
  (202, { cls := .type "code", data := .fields #[.str "Offset" 630, .str "Table.Offset" 631, .str "/claim/cut.py" 632, .int 76 0, .int 2 0, .int 0 0, .int 0 0, .int 3 0, .ref 197, .bool true, .int 317 0, .ref 198, .none, .ref 199, .ref 200, .ref 201, .int 637 0, .int 76 0, .str "/claim/cut.py" 638] })]
noncomputable def hK3 (P : Params) : Frag := [
  (203, ⟨.type "function", none, .func (fnOf "Offset" "Table.Offset" (stParams (inSt 26 2)) (stPart (inSt 26 2)) (stScope (inSt 26 2)) .none .none .none (.str "flatbuffers.table" 604) none (.ref 202) .none), #[]⟩),
  (216, { cls := .type "code", data := .fields #[.str "String" 648, .str "Table.String" 649, .str "/claim/cut.py" 650, .int 86 0, .int 2 0, .int 0 0, .int 0 0, .int 3 0, .ref 211, .bool true, .int 317 0, .ref 212, .none, .ref 213, .ref 214, .ref 215, .int 655 0, .int 86 0, .str "/claim/cut.py" 656] }),
  (217, ⟨.type "function", none, .func (fnOf "String" "Table.String" (stParams (inSt 26 4)) (stPart (inSt 26 4)) (stScope (inSt 26 4)) .none .none .none (.str "flatbuffers.table" 604) none (.ref 216) .none), #[]⟩),
  (223, { cls := .type "code", data := .fields #[.str "VectorLen" 658, .str "Table.VectorLen" 659, .str "/claim/cut.py" 660, .int 93 0, .int 2 0, .int 0 0, .int 0 0, .int 3 0, .ref 218, .bool true, .int 317 0, .ref 219, .none, .ref 220, .ref 221, .ref 222, .int 664 0, .int 93 0, .str "/claim/cut.py" 665] }),
  (224, ⟨.type "function", none, .func (fnOf "VectorLen" "Table.VectorLen" (stParams (inSt 26 5)) (stPart (inSt 26 5)) (stScope (inSt 26 5)) .none .none .none (.str "flatbuffers.table" 604) none (.ref 223) .none), #[]⟩),
  (230, { cls := .type "code", data := .fields #[.str "Vector" 667, .str "Table.Vector" 668, .str "/claim/cut.py" 669, .int 100 0, .int 2 0, .int 0 0, .int 0 0, .int 3 0, .ref 225, .bool true, .int 317 0, .ref 226, .none, .ref 227, .ref 228, .ref 229, .int 673 0, .int 100 0, .str "/claim/cut.py" 674] }),
  (231, ⟨.type "function", none, .func (fnOf "Vector" "Table.Vector" (stParams (inSt 26 6)) (stPart (inSt 26 6)) (stScope (inSt 26 6)) .none .none .none (.str "flatbuffers.table" 604) none (.ref 230) .none), #[]⟩),
  (244, { cls := .type "code", data := .fields #[.str "Get" 685, .str "Table.Get" 686, .str "/claim/cut.py" 687, .int 110 0, .int 3 0, .int 0 0, .int 0 0, .int 3 0, .ref 239, .bool true, .int 317 0, .ref 240, .none, .ref 241, .ref 242, .ref 243, .int 691 0, .int 110 0, .str "/claim/cut.py" 692] }),
  (245, ⟨.type "function", none, .func (fnOf "Get" "Table.Get" (stParams (inSt 26 8)) (stPart (inSt 26 8)) (stScope (inSt 26 8)) .none .none .none (.str "flatbuffers.table" 604) none (.ref 244) .none), #[]⟩),
  (251, { cls := .type "code", data := .fields #[.str "GetSlot" 694, .str "Table.GetSlot" 695, .str "/claim/cut.py" 696, .int 114 0, .int 4 0, .int 0 0, .int 0 0, .int 3 0, .ref 246, .bool true, .int 317 0, .ref 247, .none, .ref 248, .ref 249, .ref 250, .int 702 0, .int 114 0, .str "/claim/cut.py" 703] }),
  (252, ⟨.type "function", none, .func (fnOf "GetSlot" "Table.GetSlot" (stParams (inSt 26 9)) (stPart (inSt 26 9)) (stScope (inSt 26 9)) .none .none .none (.str "flatbuffers.table" 604) none (.ref 251) .none), #[]⟩),
  (262, { cls := .type "dict", data := .dict #[hE P "__module__" 613 (.str "flatbuffers.table" 604), hE P "__firstlineno__" 617 (.int 68 616), hE P "__slots__" 620 (.ref 189), hE P "__init__" 629 (.ref 196), hE P "Offset" 639 (.ref 203), hE P "Indirect" 647 (.ref 210), hE P "String" 657 (.ref 217), hE P "VectorLen" 666 (.ref 224), hE P "Vector" 675 (.ref 231), hE P "Union" 684 (.ref 238), hE P "Get" 693 (.ref 245), hE P "GetSlot" 704 (.ref 252), hE P "GetVOffsetTSlot" 713 (.ref 259), hE P "__static_attributes__" 716 (.ref 260), hE P "Bytes" 718 (.ref 264), hE P "Pos" 720 (.ref 265), hE P "__doc__" 721 (.none)] 4 }),
  (263, { cls := .type "type", data := .cls { name := "Table", bases := [.type "object"], mro := [.ref 263, .type "object"], ns := 262, qualname := "Table", hasDict := false, slotNames := ["Bytes", "Pos"] }, slots := #[some (.ref 182), none, some (.str "Table" 606), some (.str "Table" 614), some (.builtin "object.__new__"), some (.bool false)] }),
  (264, { cls := .type "member_descriptor", data := .fields #[.str "Bytes" 717, .ref 263, .builtin "proto.slot", .builtin "proto.slot#set", .int 1 0] }),
  (265, { cls := .type "member_descriptor", data := .fields #[.str "Pos" 719, .ref 263, .builtin "proto.slot", .builtin "proto.slot#set", .int 0 0] }),
  (268, { cls := .type "tuple", data := .seq #[.type "str"] }),
  (269, { cls := .type "tuple", data := .seq #[.type "bytes", .type "bytearray"] })]
noncomputable def hK4 (P : Params) : Frag := [
  (278, { cls := .type "dict", data := .dict #[hE P "__module__" 735 (.str "flatbuffers.builder" 726), hE P "__firstlineno__" 739 (.int 128 738), hE P "__static_attributes__" 740 (.ref 277), hE P "__weakref__" 742 (.ref 280), hE P "__doc__" 743 (.none)] 3 }),
  (279, { cls := .type "type", data := .cls { name := "OffsetArithmeticError", bases := [.type "RuntimeError"], mro := [.ref 279, .type "RuntimeError", .type "Exception", .type "BaseException", .type "object"], ns := 278, qualname := "OffsetArithmeticError" }, slots := #[some (.ref 270), none, some (.str "OffsetArithmeticError" 728), some (.str "OffsetArithmeticError" 736), some (.builtin "RuntimeError.__new__"), some (.bool true)] }),
  (291, { cls := .type "dict", data := .dict #[hE P "__module__" 753 (.str "flatbuffers.builder" 726), hE P "__firstlineno__" 757 (.int 130 756), hE P "__static_attributes__" 758 (.ref 290), hE P "__weakref__" 760 (.ref 293), hE P "__doc__" 761 (.none)] 3 }),
  (292, { cls := .type "type", data := .cls { name := "IsNotNestedError", bases := [.type "RuntimeError"], mro := [.ref 292, .type "RuntimeError", .type "Exception", .type "BaseException", .type "object"], ns := 291, qualname := "IsNotNestedError" }, slots := #[some (.ref 283), none, some (.str "IsNotNestedError" 746), some (.str "IsNotNestedError" 754), some (.builtin "RuntimeError.__new__"), some (.bool true)] }),
  (304, { cls := .type "dict", data := .dict #[hE P "__module__" 771 (.str "flatbuffers.builder" 726), hE P "__firstlineno__" 775 (.int 132 774), hE P "__static_attributes__" 776 (.ref 303), hE P "__weakref__" 778 (.ref 306), hE P "__doc__" 779 (.none)] 3 }),
  (305, { cls := .type "type", data := .cls { name := "IsNestedError", bases := [.type "RuntimeError"], mro := [.ref 305, .type "RuntimeError", .type "Exception", .type "BaseException", .type "object"], ns := 304, qualname := "IsNestedError" }, slots := #[some (.ref 296), none, some (.str "IsNestedError" 764), some (.str "IsNestedError" 772), some (.builtin "RuntimeError.__new__"), some (.bool true)] }),
  (317, { cls := .type "dict", data := .dict #[hE P "__module__" 789 (.str "flatbuffers.builder" 726), hE P "__firstlineno__" 793 (.int 134 792), hE P "__static_attributes__" 794 (.ref 316), hE P "__weakref__" 796 (.ref 319), hE P "__doc__" 797 (.none)] 3 }),
  (318, { cls := .type "type", data := .cls { name := "BuilderSizeError", bases := [.type "RuntimeError"], mro := [.ref 318, .type "RuntimeError", .type "Exception", .type "BaseException", .type "object"], ns := 317, qualname := "BuilderSizeError" }, slots := #[some (.ref 309), none, some (.str "BuilderSizeError" 782), some (.str "BuilderSizeError" 790), some (.builtin "RuntimeError.__new__"), some (.bool true)] }),
  (330, { cls := .type "dict", data := .dict #[hE P "__module__" 807 (.str "flatbuffers.builder" 726), hE P "__firstlineno__" 811 (.int 136 810), hE P "__static_attributes__" 812 (.ref 329), hE P "__weakref__" 814 (.ref 332), hE P "__doc__" 815 (.none)] 3 }),
  (331, { cls := .type "type", data := .cls { name := "BuilderNotFinishedError", bases := [.type "RuntimeError"], mro := [.ref 331, .type "RuntimeError", .type "Exception", .type "BaseException", .type "object"], ns := 330, qualname := "BuilderNotFinishedError" }, slots := #[some (.ref 322), none, some (.str "BuilderNotFinishedError" 800), some (.str "BuilderNotFinishedError" 808), some (.builtin "RuntimeError.__new__"), some (.bool true)] }),
  (343, { cls := .type "dict", data := .dict #[hE P "__module__" 825 (.str "flatbuffers.builder" 726), hE P "__firstlineno__" 829 (.int 138 828), hE P "__static_attributes__" 830 (.ref 342), hE P "__weakref__" 832 (.ref 345), hE P "__doc__" 833 (.none)] 3 }),
  (344, { cls := .type "type", data := .cls { name := "EndVectorLengthMismatched", bases := [.type "RuntimeError"], mro := [.ref 344, .type "RuntimeError", .type "Exception", .type "BaseException", .type "object"], ns := 343, qualname := "EndVectorLengthMismatched" }, slots := #[some (.ref 335), none, some (.str "EndVectorLengthMismatched" 818), some (.str "EndVectorLengthMismatched" 826), some (.builtin "RuntimeError.__new__"), some (.bool true)] })]
noncomputable def hK5 (P : Params) : Frag := [
  (356, { cls := .type "tuple", data := .seq #[.int 1024 867] }),
  (362, { cls := .type "code", data := .fields #[.str "__init__" 868, .str "Builder.__init__" 869, .str "/claim/cut.py" 870, .int 146 0, .int 2 0, .int 0 0, .int 0 0, .int 3 0, .ref 357, .bool true, .int 317 0, .ref 358, .none, .ref 359, .ref 360, .ref 361, .int 874 0, .int 146 0, .str "/claim/cut.py" 875] }),
  (363, ⟨.type "function", none, .func (fnOf "__init__" "Builder.__init__" (stParams (inSt 37 3)) (stPart (inSt 37 3)) (stScope (inSt 37 3)) (.ref 356) .none .none (.str "flatbuffers.builder" 726) none (.ref 362) .none), #[]⟩),
  (376, { cls := .type "code", data := .fields #[.str "Output" 884, .str "Builder.Output" 885, .str "/claim/cut.py" 886, .int 164 0, .int 1 0, .int 0 0, .int 0 0, .int 3 0, .ref 371, .bool true, .int 317 0, .ref 372, .none, .ref 373, .ref 374, .ref 375, .int 888 0, .int 164 0, .str "/claim/cut.py" 889] }),
  (377, ⟨.type "function", none, .func (fnOf "Output" "Builder.Output" (stParams (inSt 37 5)) (stPart (inSt 37 5)) (stScope (inSt 37 5)) .none .none .none (.str "flatbuffers.builder" 726) none (.ref 376) .none), #[]⟩),
  (383, { cls := .type "code", data := .fields #[.str "StartObject" 891, .str "Builder.StartObject" 892, .str "/claim/cut.py" 893, .int 169 0, .int 2 0, .int 0 0, .int 0 0, .int 3 0, .ref 378, .bool true, .int 317 0, .ref 379, .none, .ref 380, .ref 381, .ref 382, .int 896 0, .int 169 0, .str "/claim/cut.py" 897] }),
  (384, ⟨.type "function", none, .func (fnOf "StartObject" "Builder.StartObject" (stParams (inSt 37 6)) (stPart (inSt 37 6)) (stScope (inSt 37 6)) .none .none .none (.str "flatbuffers.builder" 726) none (.ref 383) .none), #[]⟩),
  (390, { cls := .type "code", data := .fields #[.str "WriteVtable" 899, .str "Builder.WriteVtable" 900, .str "/claim/cut.py" 901, .int 175 0, .int 1 0, .int 0 0, .int 0 0, .int 3 0, .ref 385, .bool true, .int 317 0, .ref 386, .none, .ref 387, .ref 388, .ref 389, .int 914 0, .int 175 0, .str "/claim/cut.py" 915] }),
  (391, ⟨.type "function", none, .func (fnOf "WriteVtable" "Builder.WriteVtable" (stParams (inSt 37 7)) (stPart (inSt 37 7)) (stScope (inSt 37 7)) .none .none .none (.str "flatbuffers.builder" 726) none (.ref 390) .none), #[]⟩),
  (397, { cls := .type "code", data := .fields #[.str "EndObject" 917, .str "Builder.EndObject" 918, .str "/claim/cut.py" 919, .int 222 0, .int 1 0, .int 0 0, .int 0 0, .int 3 0, .ref 392, .bool true, .int 317 0, .ref 393, .none, .ref 394, .ref 395, .ref 396, .int 921 0, .int 222 0, .str "/claim/cut.py" 922] }),
  (398, ⟨.type "function", none, .func (fnOf "EndObject" "Builder.EndObject" (stParams (inSt 37 8)) (stPart (inSt 37 8)) (stScope (inSt 37 8)) .none .none .none (.str "flatbuffers.builder" 726) none (.ref 397) .none), #[]⟩),
  (404, { cls := .type "code", data := .fields #[.str "GrowByteBuffer" 924, .str "Builder.GrowByteBuffer" 925, .str "/claim/cut.py" 926, .int 227 0, .int 1 0, .int 0 0, .int 0 0, .int 3 0, .ref 399, .bool true, .int 317 0, .ref 400, .none, .ref 401, .ref 402, .ref 403, .int 931 0, .int 227 0, .str "/claim/cut.py" 932] }),
  (405, ⟨.type "function", none, .func (fnOf "GrowByteBuffer" "Builder.GrowByteBuffer" (stParams (inSt 37 9)) (stPart (inSt 37 9)) (stScope (inSt 37 9)) .none .none .none (.str "flatbuffers.builder" 726) none (.ref 404) .none), #[]⟩),
  (411, { cls := .type "code", data := .fields #[.str "Head" 934, .str "Builder.Head" 935, .str "/claim/cut.py" 936, .int 238 0, .int 1 0, .int 0 0, .int 0 0, .int 3 0, .ref 406, .bool true, .int 317 0, .ref 407, .none, .ref 408, .ref 409, .ref 410, .int 938 0, .int 238 0, .str "/claim/cut.py" 939] }),
  (412, ⟨.type "function", none, .func (fnOf "Head" "Builder.Head" (stParams (inSt 37 10)) (stPart (inSt 37 10)) (stScope (inSt 37 10)) .none .none .none (.str "flatbuffers.builder" 726) none (.ref 411) .none), #[]⟩),
  (418, { cls := .type "code", data := .fields #[.str "Offset" 941, .str "Builder.Offset" 942, .str "/claim/cut.py" 943, .int 241 0, .int 1 0, .int 0 0, .int 0 0, .int 3 0, .ref 413, .bool true, .int 317 0, .ref 414, .none, .ref 415, .ref 416, .ref 417, .int 945 0, .int 241 0, .str "/claim/cut.py" 946] }),
  (419, ⟨.type "function", none, .func (fnOf "Offset" "Builder.Offset" (stParams (inSt 37 11)) (stPart (inSt 37 11)) (stScope (inSt 37 11)) .none .none .none (.str "flatbuffers.builder" 726) none (.ref 418) .none), #[]⟩)]
noncomputable def hK6 (P : Params) : Frag := [
  (425, { cls := .type "code", data := .fields #[.str "Pad" 948, .str "Builder.Pad" 949, .str "/claim/cut.py" 950, .int 244 0, .int 2 0, .int 0 0, .int 0 0, .int 3 0, .ref 420, .bool true, .int 317 0, .ref 421, .none, .ref 422, .ref 423, .ref 424, .int 954 0, .int 244 0, .str "/claim/cut.py" 955] }),
  (426, ⟨.type "function", none, .func (fnOf "Pad" "Builder.Pad" (stParams (inSt 37 12)) (stPart (inSt 37 12)) (stScope (inSt 37 12)) .none .none .none (.str "flatbuffers.builder" 726) none (.ref 425) .none), #[]⟩),
  (432, { cls := .type "code", data := .fields #[.str "Prep" 957, .str "Builder.Prep" 958, .str "/claim/cut.py" 959, .int 251 0, .int 3 0, .int 0 0, .int 0 0, .int 3 0, .ref 427, .bool true, .int 317 0, .ref 428, .none, .ref 429, .ref 430, .ref 431, .int 968 0, .int 251 0, .str "/claim/cut.py" 969] }),
  (433, ⟨.type "function", none, .func (fnOf "Prep" "Builder.Prep" (stParams (inSt 37 13)) (stPart (inSt 37 13)) (stScope (inSt 37 13)) .none .none .none (.str "flatbuffers.builder" 726) none (.ref 432) .none), #[]⟩),
  (439, { cls := .type "code", data := .fields #[.str "PrependSOffsetTRelative" 971, .str "Builder.PrependSOffsetTRelative" 972, .str "/claim/cut.py" 973, .int 267 0, .int 2 0, .int 0 0, .int 0 0, .int 3 0, .ref 434, .bool true, .int 317 0, .ref 435, .none, .ref 436, .ref 437, .ref 438, .int 978 0, .int 267 0, .str "/claim/cut.py" 979] }),
  (440, ⟨.type "function", none, .func (fnOf "PrependSOffsetTRelative" "Builder.PrependSOffsetTRelative" (stParams (inSt 37 14)) (stPart (inSt 37 14)) (stScope (inSt 37 14)) .none .none .none (.str "flatbuffers.builder" 726) none (.ref 439) .none), #[]⟩),
  (446, { cls := .type "code", data := .fields #[.str "PrependUOffsetTRelative" 981, .str "Builder.PrependUOffsetTRelative" 982, .str "/claim/cut.py" 983, .int 275 0, .int 2 0, .int 0 0, .int 0 0, .int 3 0, .ref 441, .bool true, .int 317 0, .ref 442, .none, .ref 443, .ref 444, .ref 445, .int 988 0, .int 275 0, .str "/claim/cut.py" 989] }),
  (447, ⟨.type "function", none, .func (fnOf "PrependUOffsetTRelative" "Builder.PrependUOffsetTRelative" (stParams (inSt 37 15)) (stPart (inSt 37 15)) (stScope (inSt 37 15)) .none .none .none (.str "flatbuffers.builder" 726) none (.ref 446) .none), #[]⟩),
  (455, { cls := .type "tuple", data := .seq #[.none] }),
  (461, { cls := .type "code", data := .fields #[.str "EndVector" 1001, .str "Builder.EndVector" 1002, .str "/claim/cut.py" 1003, .int 291 0, .int 2 0, .int 0 0, .int 0 0, .int 3 0, .ref 456, .bool true, .int 317 0, .ref 457, .none, .ref 458, .ref 459, .ref 460, .int 1006 0, .int 291 0, .str "/claim/cut.py" 1007] }),
  (462, ⟨.type "function", none, .func (fnOf "EndVector" "Builder.EndVector" (stParams (inSt 37 17)) (stPart (inSt 37 17)) (stScope (inSt 37 17)) (.ref 455) .none .none (.str "flatbuffers.builder" 726) none (.ref 461) .none), #[]⟩),
  (475, { cls := .type "code", data := .fields #[.str "CreateString" 1017, .str "Builder.CreateString" 1018, .str "/claim/cut.py" 1019, .int 304 0, .int 2 0, .int 0 0, .int 0 0, .int 3 0, .ref 470, .bool true, .int 317 0, .ref 471, .none, .ref 472, .ref 473, .ref 474, .int 1025 0, .int 304 0, .str "/claim/cut.py" 1026] }),
  (476, ⟨.type "function", none, .func (fnOf "CreateString" "Builder.CreateString" (stParams (inSt 37 19)) (stPart (inSt 37 19)) (stScope (inSt 37 19)) .none .none .none (.str "flatbuffers.builder" 726) none (.ref 475) .none), #[]⟩),
  (482, { cls := .type "code", data := .fields #[.str "CreateByteVector" 1028, .str "Builder.CreateByteVector" 1029, .str "/claim/cut.py" 1030, .int 322 0, .int 2 0, .int 0 0, .int 0 0, .int 3 0, .ref 477, .bool true, .int 317 0, .ref 478, .none, .ref 479, .ref 480, .ref 481, .int 1035 0, .int 322 0, .str "/claim/cut.py" 1036] }),
  (483, ⟨.type "function", none, .func (fnOf "CreateByteVector" "Builder.CreateByteVector" (stParams (inSt 37 20)) (stPart (inSt 37 20)) (stScope (inSt 37 20)) .none .none .none (.str "flatbuffers.builder" 726) none (.ref 482) .none), #[]⟩),
  (489, { cls := .type "code", data := .fields #[.str "assertNested" 1038, .str "Builder.assertNested" 1039, .str "/claim/cut.py" 1040, .int 335 0, .int 1 0, .int 0 0, .int 0 0, .int 3 0, .ref 484, .bool true, .int 317 0, .ref 485, .none, .ref 486, .ref 487, .ref 488, .int 1042 0, .int 335 0, .str "/claim/cut.py" 1043] })]
noncomputable def hK7 (P : Params) : Frag := [
  (490, ⟨.type "function", none, .func (fnOf "assertNested" "Builder.assertNested" (stParams (inSt 37 21)) (stPart (inSt 37 21)) (stScope (inSt 37 21)) .none .none .none (.str "flatbuffers.builder" 726) none (.ref 489) .none), #[]⟩),
  (496, { cls := .type "code", data := .fields #[.str "assertNotNested" 1045, .str "Builder.assertNotNested" 1046, .str "/claim/cut.py" 1047, .int 339 0, .int 1 0, .int 0 0, .int 0 0, .int 3 0, .ref 491, .bool true, .int 317 0, .ref 492, .none, .ref 493, .ref 494, .ref 495, .int 1049 0, .int 339 0, .str "/claim/cut.py" 1050] }),
  (497, ⟨.type "function", none, .func (fnOf "assertNotNested" "Builder.assertNotNested" (stParams (inSt 37 22)) (stPart (inSt 37 22)) (stScope (inSt 37 22)) .none .none .none (.str "flatbuffers.builder" 726) none (.ref 496) .none), #[]⟩),
  (510, { cls := .type "code", data := .fields #[.str "Slot" 1060, .str "Builder.Slot" 1061, .str "/claim/cut.py" 1062, .int 346 0, .int 2 0, .int 0 0, .int 0 0, .int 3 0, .ref 505, .bool true, .int 317 0, .ref 506, .none, .ref 507, .ref 508, .ref 509, .int 1065 0, .int 346 0, .str "/claim/cut.py" 1066] }),
  (511, ⟨.type "function", none, .func (fnOf "Slot" "Builder.Slot" (stParams (inSt 37 24)) (stPart (inSt 37 24)) (stScope (inSt 37 24)) .none .none .none (.str "flatbuffers.builder" 726) none (.ref 510) .none), #[]⟩),
  (512, { cls := .type "tuple", data := .seq #[.none] }),
  (518, { cls := .type "code", data := .fields #[.str "__Finish" 1068, .str "Builder.__Finish" 1069, .str "/claim/cut.py" 1070, .int 350 0, .int 4 0, .int 0 0, .int 0 0, .int 3 0, .ref 513, .bool true, .int 317 0, .ref 514, .none, .ref 515, .ref 516, .ref 517, .int 1078 0, .int 350 0, .str "/claim/cut.py" 1079] }),
  (519, ⟨.type "function", none, .func (fnOf "__Finish" "Builder.__Finish" (stParams (inSt 37 25)) (stPart (inSt 37 25)) (stScope (inSt 37 25)) (.ref 512) .none .none (.str "flatbuffers.builder" 726) none (.ref 518) .none), #[]⟩),
  (520, { cls := .type "tuple", data := .seq #[.none] }),
  (526, { cls := .type "code", data := .fields #[.str "Finish" 1081, .str "Builder.Finish" 1082, .str "/claim/cut.py" 1083, .int 371 0, .int 3 0, .int 0 0, .int 0 0, .int 3 0, .ref 521, .bool true, .int 317 0, .ref 522, .none, .ref 523, .ref 524, .ref 525, .int 1087 0, .int 371 0, .str "/claim/cut.py" 1088] }),
  (527, ⟨.type "function", none, .func (fnOf "Finish" "Builder.Finish" (stParams (inSt 37 26)) (stPart (inSt 37 26)) (stScope (inSt 37 26)) (.ref 520) .none .none (.str "flatbuffers.builder" 726) none (.ref 526) .none), #[]⟩),
  (528, { cls := .type "tuple", data := .seq #[.none] }),
  (534, { cls := .type "code", data := .fields #[.str "FinishSizePrefixed" 1090, .str "Builder.FinishSizePrefixed" 1091, .str "/claim/cut.py" 1092, .int 374 0, .int 3 0, .int 0 0, .int 0 0, .int 3 0, .ref 529, .bool true, .int 317 0, .ref 530, .none, .ref 531, .ref 532, .ref 533, .int 1096 0, .int 374 0, .str "/claim/cut.py" 1097] }),
  (535, ⟨.type "function", none, .func (fnOf "FinishSizePrefixed" "Builder.FinishSizePrefixed" (stParams (inSt 37 27)) (stPart (inSt 37 27)) (stScope (inSt 37 27)) (.ref 528) .none .none (.str "flatbuffers.builder" 726) none (.ref 534) .none), #[]⟩),
  (541, { cls := .type "code", data := .fields #[.str "Prepend" 1099, .str "Builder.Prepend" 1100, .str "/claim/cut.py" 1101, .int 377 0, .int 3 0, .int 0 0, .int 0 0, .int 3 0, .ref 536, .bool true, .int 317 0, .ref 537, .none, .ref 538, .ref 539, .ref 540, .int 1105 0, .int 377 0, .str "/claim/cut.py" 1106] }),
  (542, ⟨.type "function", none, .func (fnOf "Prepend" "Builder.Prepend" (stParams (inSt 37 28)) (stPart (inSt 37 28)) (stScope (inSt 37 28)) .none .none .none (.str "flatbuffers.builder" 726) none (.ref 541) .none), #[]⟩),
  (548, { cls := .type "code", data := .fields #[.str "PrependSlot" 1108, .str "Builder.PrependSlot" 1109, .str "/claim/cut.py" 1110, .int 381 0, .int 5 0, .int 0 0, .int 0 0, .int 3 0, .ref 543, .bool true, .int 317 0, .ref 544, .none, .ref 545, .ref 546, .ref 547, .int 1116 0, .int 381 0, .str "/claim/cut.py" 1117] }),
  (549, ⟨.type "function", none, .func (fnOf "PrependSlot" "Builder.PrependSlot" (stParams (inSt 37 29)) (stPart (inSt 37 29)) (stScope (inSt 37 29)) .none .none .none (.str "flatbuffers.builder" 726) none (.ref 548) .none), #[]⟩)]
noncomputable def hK8 (P : Params) : Frag := [
  (590, { cls := .type "code", data := .fields #[.str "PrependUint64Slot" 1159, .str "Builder.PrependUint64Slot" 1160, .str "/claim/cut.py" 1161, .int 405 0, .int 1 0, .int 0 0, .int 0 0, .int 7 0, .ref 585, .bool true, .int 317 0, .ref 586, .none, .ref 587, .ref 588, .ref 589, .int 1164 0, .int 405 0, .str "/claim/cut.py" 1165] }),
  (591, ⟨.type "function", none, .func (fnOf "PrependUint64Slot" "Builder.PrependUint64Slot" (stParams (inSt 37 35)) (stPart (inSt 37 35)) (stScope (inSt 37 35)) .none .none .none (.str "flatbuffers.builder" 726) none (.ref 590) .none), #[]⟩),
  (611, { cls := .type "code", data := .fields #[.str "PrependInt32Slot" 1183, .str "Builder.PrependInt32Slot" 1184, .str "/claim/cut.py" 1185, .int 414 0, .int 1 0, .int 0 0, .int 0 0, .int 7 0, .ref 606, .bool true, .int 317 0, .ref 607, .none, .ref 608, .ref 609, .ref 610, .int 1188 0, .int 414 0, .str "/claim/cut.py" 1189] }),
  (612, ⟨.type "function", none, .func (fnOf "PrependInt32Slot" "Builder.PrependInt32Slot" (stParams (inSt 37 38)) (stPart (inSt 37 38)) (stScope (inSt 37 38)) .none .none .none (.str "flatbuffers.builder" 726) none (.ref 611) .none), #[]⟩),
  (625, { cls := .type "code", data := .fields #[.str "PrependUOffsetTRelativeSlot" 1199, .str "Builder.PrependUOffsetTRelativeSlot" 1200, .str "/claim/cut.py" 1201, .int 420 0, .int 4 0, .int 0 0, .int 0 0, .int 3 0, .ref 620, .bool true, .int 317 0, .ref 621, .none, .ref 622, .ref 623, .ref 624, .int 1206 0, .int 420 0, .str "/claim/cut.py" 1207] }),
  (626, ⟨.type "function", none, .func (fnOf "PrependUOffsetTRelativeSlot" "Builder.PrependUOffsetTRelativeSlot" (stParams (inSt 37 40)) (stPart (inSt 37 40)) (stScope (inSt 37 40)) .none .none .none (.str "flatbuffers.builder" 726) none (.ref 625) .none), #[]⟩),
  (695, { cls := .type "code", data := .fields #[.str "PrependInt32" 1283, .str "Builder.PrependInt32" 1284, .str "/claim/cut.py" 1285, .int 452 0, .int 2 0, .int 0 0, .int 0 0, .int 3 0, .ref 690, .bool true, .int 317 0, .ref 691, .none, .ref 692, .ref 693, .ref 694, .int 1288 0, .int 452 0, .str "/claim/cut.py" 1289] }),
  (696, ⟨.type "function", none, .func (fnOf "PrependInt32" "Builder.PrependInt32" (stParams (inSt 37 50)) (stPart (inSt 37 50)) (stScope (inSt 37 50)) .none .none .none (.str "flatbuffers.builder" 726) none (.ref 695) .none), #[]⟩),
  (716, { cls := .type "code", data := .fields #[.str "PrependVOffsetT" 1307, .str "Builder.PrependVOffsetT" 1308, .str "/claim/cut.py" 1309, .int 461 0, .int 2 0, .int 0 0, .int 0 0, .int 3 0, .ref 711, .bool true, .int 317 0, .ref 712, .none, .ref 713, .ref 714, .ref 715, .int 1312 0, .int 461 0, .str "/claim/cut.py" 1313] }),
  (717, ⟨.type "function", none, .func (fnOf "PrependVOffsetT" "Builder.PrependVOffsetT" (stParams (inSt 37 53)) (stPart (inSt 37 53)) (stScope (inSt 37 53)) .none .none .none (.str "flatbuffers.builder" 726) none (.ref 716) .none), #[]⟩),
  (723, { cls := .type "code", data := .fields #[.str "Place" 1315, .str "Builder.Place" 1316, .str "/claim/cut.py" 1317, .int 464 0, .int 3 0, .int 0 0, .int 0 0, .int 3 0, .ref 718, .bool true, .int 317 0, .ref 719, .none, .ref 720, .ref 721, .ref 722, .int 1322 0, .int 464 0, .str "/claim/cut.py" 1323] }),
  (724, ⟨.type "function", none, .func (fnOf "Place" "Builder.Place" (stParams (inSt 37 54)) (stPart (inSt 37 54)) (stScope (inSt 37 54)) .none .none .none (.str "flatbuffers.builder" 726) none (.ref 723) .none), #[]⟩),
  (737, { cls := .type "code", data := .fields #[.str "PlaceSOffsetT" 1333, .str "Builder.PlaceSOffsetT" 1334, .str "/claim/cut.py" 1335, .int 473 0, .int 2 0, .int 0 0, .int 0 0, .int 3 0, .ref 732, .bool true, .int 317 0, .ref 733, .none, .ref 734, .ref 735, .ref 736, .int 1339 0, .int 473 0, .str "/claim/cut.py" 1340] }),
  (738, ⟨.type "function", none, .func (fnOf "PlaceSOffsetT" "Builder.PlaceSOffsetT" (stParams (inSt 37 56)) (stPart (inSt 37 56)) (stScope (inSt 37 56)) .none .none .none (.str "flatbuffers.builder" 726) none (.ref 737) .none), #[]⟩),
  (744, { cls := .type "code", data := .fields #[.str "PlaceUOffsetT" 1342, .str "Builder.PlaceUOffsetT" 1343, .str "/claim/cut.py" 1344, .int 479 0, .int 2 0, .int 0 0, .int 0 0, .int 3 0, .ref 739, .bool true, .int 317 0, .ref 740, .none, .ref 741, .ref 742, .ref 743, .int 1348 0, .int 479 0, .str "/claim/cut.py" 1349] })]
noncomputable def hK9 (P : Params) : Frag := [
  (745, ⟨.type "function", none, .func (fnOf "PlaceUOffsetT" "Builder.PlaceUOffsetT" (stParams (inSt 37 57)) (stPart (inSt 37 57)) (stScope (inSt 37 57)) .none .none .none (.str "flatbuffers.builder" 726) none (.ref 744) .none), #[]⟩),
  (750, { cls := .type "member_descriptor", data := .fields #[.str "Bytes" 1363, .ref 749, .builtin "proto.slot", .builtin "proto.slot#set", .int 10 0] }),
  (751, { cls := .type "member_descriptor", data := .fields #[.str "current_vtable" 1365, .ref 749, .builtin "proto.slot", .builtin "proto.slot#set", .int 9 0] }),
  (752, { cls := .type "member_descriptor", data := .fields #[.str "finished" 1367, .ref 749, .builtin "proto.slot", .builtin "proto.slot#set", .int 8 0] }),
  (753, { cls := .type "member_descriptor", data := .fields #[.str "forceDefaults" 1369, .ref 749, .builtin "proto.slot", .builtin "proto.slot#set", .int 7 0] }),
  (754, { cls := .type "member_descriptor", data := .fields #[.str "head" 1371, .ref 749, .builtin "proto.slot", .builtin "proto.slot#set", .int 6 0] }),
  (755, { cls := .type "member_descriptor", data := .fields #[.str "minalign" 1373, .ref 749, .builtin "proto.slot", .builtin "proto.slot#set", .int 5 0] }),
  (756, { cls := .type "member_descriptor", data := .fields #[.str "nested" 1375, .ref 749, .builtin "proto.slot", .builtin "proto.slot#set", .int 4 0] }),
  (757, { cls := .type "member_descriptor", data := .fields #[.str "objectEnd" 1377, .ref 749, .builtin "proto.slot", .builtin "proto.slot#set", .int 3 0] }),
  (758, { cls := .type "member_descriptor", data := .fields #[.str "sharedStrings" 1379, .ref 749, .builtin "proto.slot", .builtin "proto.slot#set", .int 2 0] }),
  (759, { cls := .type "member_descriptor", data := .fields #[.str "vectorNumElems" 1381, .ref 749, .builtin "proto.slot", .builtin "proto.slot#set", .int 1 0] }),
  (760, { cls := .type "member_descriptor", data := .fields #[.str "vtables" 1383, .ref 749, .builtin "proto.slot", .builtin "proto.slot#set", .int 0 0] }),
  (768, { cls := .type "code", data := .fields #[.str "GetSizePrefix" 1390, .str "GetSizePrefix" 1391, .str "/claim/cut.py" 1392, .int 485 0, .int 2 0, .int 0 0, .int 0 0, .int 3 0, .ref 763, .bool true, .int 317 0, .ref 764, .none, .ref 765, .ref 766, .ref 767, .int 1395 0, .int 485 0, .str "/claim/cut.py" 1396] }),
  (769, ⟨.type "function", none, .func (fnOf "GetSizePrefix" "GetSizePrefix" (stParams (topSt 39)) (stPart (topSt 39)) (stScope (topSt 39)) .none .none .none (.str "flatbuffers.util" 1388) none (.ref 768) .none), #[]⟩),
  (770, { cls := .type "tuple", data := .seq #[.bool false] }),
  (776, { cls := .type "code", data := .fields #[.str "GetBufferIdentifier" 1398, .str "GetBufferIdentifier" 1399, .str "/claim/cut.py" 1400, .int 487 0, .int 3 0, .int 0 0, .int 0 0, .int 3 0, .ref 771, .bool true, .int 317 0, .ref 772, .none, .ref 773, .ref 774, .ref 775, .int 1405 0, .int 487 0, .str "/claim/cut.py" 1406] }),
  (777, ⟨.type "function", none, .func (fnOf "GetBufferIdentifier" "GetBufferIdentifier" (stParams (topSt 40)) (stPart (topSt 40)) (stScope (topSt 40)) (.ref 770) .none .none (.str "flatbuffers.util" 1388) none (.ref 776) .none), #[]⟩),
  (778, { cls := .type "tuple", data := .seq #[.bool false] }),
  (784, { cls := .type "code", data := .fields #[.str "BufferHasIdentifier" 1408, .str "BufferHasIdentifier" 1409, .str "/claim/cut.py" 1410, .int 493 0, .int 4 0, .int 0 0, .int 0 0, .int 3 0, .ref 779, .bool true, .int 317 0, .ref 780, .none, .ref 781, .ref 782, .ref 783, .int 1416 0, .int 493 0, .str "/claim/cut.py" 1417] }),
  (785, ⟨.type "function", none, .func (fnOf "BufferHasIdentifier" "BufferHasIdentifier" (stParams (topSt 41)) (stPart (topSt 41)) (stScope (topSt 41)) (.ref 778) .none .none (.str "flatbuffers.util" 1388) none (.ref 784) .none), #[]⟩),
  (791, { cls := .type "code", data := .fields #[.str "_law_made" 1421, .str "_law_made" 1422, .str "/claim/cut.py" 1423, .int 497 0, .int 7 0, .int 0 0, .int 0 0, .int 3 0, .ref 786, .bool true, .int 317 0, .ref 787, .none, .ref 788, .ref 789, .ref 790, .int 1436 0, .int 497 0, .str "/claim/cut.py" 1437] }),
  (792, ⟨.type "function", none, .func (fnOf "_law_made" "_law_made" (stParams (topSt 43)) (stPart (topSt 43)) (stScope (topSt 43)) .none .none .none (.str "law_bb0043_01" 1419) none (.ref 791) .none), #[]⟩)]
noncomputable def hK10 (P : Params) : Frag := [
  (798, { cls := .type "code", data := .fields #[.str "_law_level" 1439, .str "_law_level" 1440, .str "/claim/cut.py" 1441, .int 518 0, .int 4 0, .int 0 0, .int 0 0, .int 3 0, .ref 793, .bool true, .int 317 0, .ref 794, .none, .ref 795, .ref 796, .ref 797, .int 1457 0, .int 518 0, .str "/claim/cut.py" 1458] }),
  (799, ⟨.type "function", none, .func (fnOf "_law_level" "_law_level" (stParams (topSt 44)) (stPart (topSt 44)) (stScope (topSt 44)) .none .none .none (.str "law_bb0043_01" 1419) none (.ref 798) .none), #[]⟩),
  (803, { cls := .type "code", data := .fields #[.str "law" 1460, .str "law" 1461, .str "/claim/cut.py" 1462, .int 542 0, .int 1 0, .int 0 0, .int 0 0, .int 3 0, .ref 800, .bool true, .int 317 0, .ref 801, .none, .none, .none, .ref 802, .int 1463 0, .int 542 0, .str "/claim/cut.py" 1464] }),
  (804, ⟨.type "function", none, .func (fnOf "law" "law" (stParams (topSt 45)) (stPart (topSt 45)) (stScope (topSt 45)) .none .none .none (.str "law_bb0043_01" 1419) none (.ref 803) .none), #[]⟩)]
/-- what is known of the heap when the call begins -/
noncomputable def hK (P : Params) : Frag := hK0 P ++ (hK1 P ++ (hK2 P ++ (hK3 P ++ (hK4 P ++ (hK5 P ++ (hK6 P ++ (hK7 P ++ (hK8 P ++ (hK9 P ++ (hK10 P))))))))))
noncomputable def hAs : List Addr := [3, 2, 749, 748, 50, 51, 52, 53, 54, 63, 64, 77, 78, 91, 92, 105, 106, 119, 120, 133, 134, 145, 146, 157, 158, 166, 167, 173, 174, 180, 181, 195, 196, 202, 203, 216, 217, 223, 224, 230, 231, 244, 245, 251, 252, 262, 263, 264, 265, 268, 269, 278, 279, 291, 292, 304, 305, 317, 318, 330, 331, 343, 344, 356, 362, 363, 376, 377, 383, 384, 390, 391, 397, 398, 404, 405, 411, 412, 418, 419, 425, 426, 432, 433, 439, 440, 446, 447, 455, 461, 462, 475, 476, 482, 483, 489, 490, 496, 497, 510, 511, 512, 518, 519, 520, 526, 527, 528, 534, 535, 541, 542, 548, 549, 590, 591, 611, 612, 625, 626, 695, 696, 716, 717, 723, 724, 737, 738, 744, 745, 750, 751, 752, 753, 754, 755, 756, 757, 758, 759, 760, 768, 769, 770, 776, 777, 778, 784, 785, 791, 792, 798, 799, 803, 804]
theorem hAs_ok (P : Params) : hAs = (hK P).map (·.1) := by kernel_rfl
end Mine
namespace Mine

section
variable {α β : Type} {M : Model} {A : Around} {os : OsState} {h : Heap}

noncomputable def codeC (M : Model) (A : Around) (c : Code) (R : Result → Shared → Prop) (s : Shared) : Prop :=
  ∀ Γ p, Γ.code = c → Γ.Below A → cleanSt Γ.below = true → wpCode M Γ R p s

/-- from the heap h the tree ends, without a raise, in Q; the outside and the generators stay -/
noncomputable def T (M : Model) (os : OsState) (A : Around) (t : Sem α) (h : Heap) (Q : α → Heap → Prop) : Prop :=
  ∀ s : Shared, s.heap = h → s.gens = #[] → s.os = os → wpC M A t (fun a s' => s'.gens = #[] ∧ s'.os = os ∧ Q a s'.heap) (fun _ _ => False) s
noncomputable def CT (M : Model) (os : OsState) (A : Around) (c : Code) (h : Heap) (Q : Flow → Heap → Prop) : Prop :=
  ∀ s : Shared, s.heap = h → s.gens = #[] → s.os = os → codeC M A c (fun r s' => ∃ f, r = .ok f ∧ s'.gens = #[] ∧ s'.os = os ∧ Q f s'.heap) s

theorem T.any {t : Sem α} {Q : α → Heap → Prop} (k : ∀ s : Shared, s.heap = h → s.gens = #[] → s.os = os → wpAny M A t (fun a s' => s'.gens = #[] ∧ s'.os = os ∧ Q a s'.heap) (fun _ _ => False) s) :
    T M os A t h Q := fun s e g o Γ p hΓ _ => k s e g o Γ p hΓ
theorem T.pure {a : α} {Q : α → Heap → Prop} (k : Q a h) : T M os A (Pure.pure a) h Q := T.any fun s e g o => wpAny_pure ⟨g, o, e ▸ k⟩
theorem T.mono {t : Sem α} {Q Q' : α → Heap → Prop} (k : T M os A t h Q) (q : ∀ a h', Q a h' → Q' a h') : T M os A t h Q' := fun s e g o Γ p hΓ hc =>
  Sem.wp_mono _ _ _ (fun _ _ _ x => ⟨x.1, x.2.1, q _ _ x.2.2⟩) (fun _ _ _ x => x) _ _ (k s e g o Γ p hΓ hc)
theorem T.bind {m : Sem α} {f : α → Sem β} {Q : β → Heap → Prop} (k : T M os A m h fun a h' => T M os A (f a) h' Q) : T M os A (m >>= f) h Q := fun s e g o Γ p hΓ hc => by
  rw [Sem.wp_bind']
  exact Sem.wp_mono _ _ _ (fun a p' s' x => x.2.2 s' rfl x.1 x.2.1 Γ p' hΓ hc) (fun _ _ _ x => x) _ _ (k s e g o Γ p hΓ hc)
theorem T.keep {vs : List Value} {t : Sem α} {Q : α → Heap → Prop} (k : T M os A t h Q) : T M os A (t.keep vs) h Q := fun s e g o Γ p hΓ hc => by
  rw [Sem.wp_keep]; exact k s e g o Γ p hΓ hc
theorem T.holding {vs : List Value} {t : Sem α} {Q : α → Heap → Prop} (k : T M os A t h Q) : T M os A (PySem.holding vs t) h Q := fun s e g o Γ p hΓ hc => by
  rw [Sem.wp_holding]; exact k s e g o Γ p hΓ hc
theorem T.onRaise {t : Sem α} {f : Value → Sem Unit} {Q : α → Heap → Prop} (k : T M os A t h Q) : T M os A (t.onRaise f) h Q := fun s e g o Γ p hΓ hc => by
  rw [Sem.wp_onRaise]
  exact Sem.wp_mono _ _ _ (fun _ _ _ x => x) (fun _ _ _ x => x.elim) _ _ (k s e g o Γ p hΓ hc)
theorem T.tryCatch {t : Sem α} {f : Value → Sem α} {Q : α → Heap → Prop} (k : T M os A t h Q) : T M os A (MonadExcept.tryCatch t f) h Q := fun s e g o Γ p hΓ hc => by
  rw [Sem.wp_tryCatch']
  exact Sem.wp_mono _ _ _ (fun _ _ _ x => x) (fun _ _ _ x => x.elim) _ _ (k s e g o Γ p hΓ hc)
theorem T.attempt {t : Sem α} {Q : Except Value α → Heap → Prop} (k : T M os A t h fun a => Q (.ok a)) : T M os A t.attempt h Q := fun s e g o Γ p hΓ hc => by
  rw [Sem.wp_attempt]
  exact Sem.wp_mono _ _ _ (fun _ _ _ x => x) (fun _ _ _ x => x.elim) _ _ (k s e g o Γ p hΓ hc)
theorem T.standAt {pos : Pos} {Q : Unit → Heap → Prop} (k : Q () h) : T M os A (PySem.standAt pos) h Q := T.any fun s e g o => wpAny_standAt ⟨g, o, e ▸ k⟩
theorem T.point {Q : Unit → Heap → Prop} (k : Q () h) : T M os A PySem.point h Q := T.any fun s e g o => wpAny_point ⟨g, o, e ▸ k⟩
theorem T.rule {tag : String} {Q : Unit → Heap → Prop} (k : Q () h) : T M os A (PySem.rule tag) h Q := T.any fun s e g o => wpAny_rule ⟨g, o, e ▸ k⟩
theorem T.load {a : Addr} {ob : Obj} {Q : Obj → Heap → Prop} (ho : h.get? a = some ob) (k : Q ob h) : T M os A (PySem.load a) h Q := T.any fun s e g o => wpAny_load (by rw [e]; exact ho) ⟨g, o, e ▸ k⟩
theorem T.mkInt {i : Int} {Q : Value → Heap → Prop} (k : ∀ t, Q (.int i t) h) : T M os A (PySem.mkInt i) h Q := T.any fun s e g o => wpAny_mkInt ⟨g, o, e ▸ k _⟩
theorem T.alloc {ob : Obj} {Q : Addr → Heap → Prop} (k : Q h.objs.size (h.push ob)) : T M os A (PySem.alloc ob) h Q := T.any fun s e g o => wpAny_alloc ⟨g, o, by subst e; exact k⟩
theorem T.eq {t : Sem α} {a : α} {Q : α → Heap → Prop} (e : t = Pure.pure a) (k : Q a h) : T M os A t h Q := e ▸ T.pure k
/-- a look of the library's -/
theorem T.looks {t : Sem α} {a : α} {Q : α → Heap → Prop} (l : Looks M h t a) (k : Q a h) : T M os A t h Q := T.any fun s e g o => by
  subst e; exact l.here ⟨g, o, k⟩
theorem T.ite_true {c : Prop} [Decidable c] {a b : Sem α} {Q : α → Heap → Prop} (hc : c) (k : T M os A a h Q) : T M os A (if c then a else b) h Q := by rw [if_pos hc]; exact k
theorem T.ite_false {c : Prop} [Decidable c] {a b : Sem α} {Q : α → Heap → Prop} (hc : ¬ c) (k : T M os A b h Q) : T M os A (if c then a else b) h Q := by rw [if_neg hc]; exact k

theorem clean_cons {c : Code} {p : Pos} {l : List (Code × Pos)} (hc : holder c = false) (hl : cleanSt l = true) : cleanSt ((c, p) :: l) = true := by
  unfold cleanSt at hl ⊢
  rw [List.all_cons, hl, hc]; rfl
theorem CT.mono {c : Code} {Q Q' : Flow → Heap → Prop} (k : CT M os A c h Q) (q : ∀ a h', Q a h' → Q' a h') : CT M os A c h Q' := fun s e g o Γ p hc hΓ hl =>
  wpCode_mono (fun _ _ ⟨f, a, b, d, x⟩ => ⟨f, a, b, d, q _ _ x⟩) (k s e g o Γ p hc hΓ hl)
theorem CT.any {c : Code} {Q : Flow → Heap → Prop} (k : ∀ s : Shared, s.heap = h → s.gens = #[] → s.os = os → codeAny M A c (fun r s' => ∃ f, r = .ok f ∧ s'.gens = #[] ∧ s'.os = os ∧ Q f s'.heap) s) :
    CT M os A c h Q := fun s e g o Γ p hc hΓ _ => k s e g o Γ p hc hΓ
/-- a tree's end: a flow, or the next code -/
noncomputable def FinT (M : Model) (os : OsState) (A : Around) (Q : Flow → Heap → Prop) (fin : Fin) (h : Heap) : Prop := match fin with
  | .done f => Q f h
  | .again c => c.quiet = true ∧ CT M os A c h Q
theorem CT.tree {c : Code} {Q : Flow → Heap → Prop} (hh : holder c = false) (k : T M os (A.under c) (M.den c) h (FinT M os A Q)) : CT M os A c h Q := fun s e g o Γ p hc hΓ hl => by
  rw [wpCode_iff_wp, hc]
  refine Sem.wp_mono _ _ _ (fun fin p' s' x => ?_) (fun _ _ _ x => x.elim) p s (k s e g o Γ p (hc ▸ hΓ.in) (by rw [hc]; exact clean_cons hh hl))
  obtain ⟨g', o', x⟩ := x
  cases fin with
  | done f => exact ⟨f, rfl, g', o', x⟩
  | again c' => exact ⟨x.1, x.2 s' rfl g' o' (Γ.goto c') p' rfl (hΓ.goto c') hl⟩
theorem T.run {c : Code} {Q : Flow → Heap → Prop} (k : CT M os A c h Q) : T M os A (PySem.run c none) h Q := fun s e g o Γ p hΓ hc => by
  rw [Sem.wp_run]
  refine wpCode_mono (fun r s' x => ?_) (k s e g o _ p rfl (hΓ.enter c none p (by intro x; cases x)) hc)
  obtain ⟨f, rfl, x⟩ := x
  exact x
theorem T.runValue {c : Code} {Q : Value → Heap → Prop} (k : CT M os A c h fun f h' => ∃ v, f = .ret v ∧ Q v h') : T M os A (PySem.runValue c) h Q := by
  unfold PySem.runValue
  refine T.bind (T.mono (T.run k) fun f h' x => ?_)
  obtain ⟨v, rfl, q⟩ := x
  exact T.pure q
theorem T.call {f : Value} {pos : List Value} {kw : List (Str × Value)} {Q : Value → Heap → Prop} (k : CT M os A (.call f ⟨pos, kw⟩) h fun f h' => ∃ v, f = .ret v ∧ Q v h') : T M os A (PySem.call f pos kw) h Q := T.runValue k
theorem T.runOwn {c : Code} {env : Env} {Q : Flow → Heap → Prop} (k : CT M os A c h Q) : T M os A (PySem.runOwn c env) h Q := by
  unfold PySem.runOwn
  exact T.onRaise (T.run k)
end
end Mine
namespace Mine
section
variable {prog : Program} {w : World} {A : Around} {os : OsState} {h : Heap}

theorem CT.builtin {id : String} {args : Args} {b : Builtin} {Q : Flow → Heap → Prop} (hb : entryFor table id = some b) (hh : Builtin.Bytes.decodersThatHold.contains id = false)
    (k : T (model prog w) os (A.under (.builtin id args)) (b args) h (FinT (model prog w) os A Q)) : CT (model prog w) os A (.builtin id args) h Q := by
  refine CT.tree hh ?_
  show T _ _ _ (match entryFor table id with | some b => b args | none => unsupported ((withoutEnding? id "#data").getD id)) _ _
  rw [hb]; exact k
theorem CT.callBuiltin {id : String} {args : Args} {b : Builtin} {Q : Flow → Heap → Prop} (hq : plainId id = true) (hb : entryFor table id = some b) (hh : Builtin.Bytes.decodersThatHold.contains id = false)
    (hc : T (model prog w) os A.in1 (checkBuiltinCall id args) h fun _ h' => h' = h)
    (k : T (model prog w) os A.in1 (b args) h (FinT (model prog w) os A Q)) : CT (model prog w) os A (.call (.builtin id) args) h Q := by
  refine CT.tree rfl ?_
  show T _ _ A.in1 (do checkBuiltinCall id args; again (.builtin id args)) _ _
  refine T.bind (T.mono hc fun _ h' e => ?_)
  subst e
  exact T.pure ⟨plainId_quiet hq args, CT.builtin hb hh (by rw [Around.under_plainId hq args]; exact k)⟩

theorem T.specialOf {a : Addr} {o : Obj} {Ty : String} {name : Str} {r : Option Value} {Q : Option Value → Heap → Prop} (ho : h.get? a = some o) (hc : o.cls = .type Ty) (hl : typeLookup (.type Ty) name = Pure.pure r) (k : Q r h) :
    T (model prog w) os A (specialOf (.ref a) name) h Q := T.any fun s e g o' => wpAny_specialOf (T := Ty) (show s.TypeIs (.ref a) Ty from ⟨o, by rw [e]; exact ho, hc⟩) hl ⟨g, o', e ▸ k⟩
theorem T.isInstance {a : Addr} {o : Obj} {Ty b : String} {r : Bool} {Q : Bool → Heap → Prop} (ho : h.get? a = some o) (hc : o.cls = .type Ty) (hl : isSubtype (.type Ty) (.type b) = Pure.pure r) (k : Q r h) :
    T (model prog w) os A (isInstance (.ref a) (.type b)) h Q := T.any fun s e g o' => wpAny_isInstance (T := Ty) (show s.TypeIs (.ref a) Ty from ⟨o, by rw [e]; exact ho, hc⟩) hl ⟨g, o', e ▸ k⟩

theorem T.callType {Ty newId initId : String} {Bi : Builtin} {args : List Value} {Q : Value → Heap → Prop} {Q₁ : Addr → Heap → Prop} (ft : TypeCalled Ty newId initId)
    (hct : checkTypeCall Ty ⟨args, []⟩ = Pure.pure ()) (entryI : entryFor table initId = some Bi) (hdI : Builtin.Bytes.decodersThatHold.contains initId = false)
    (hnew : CT (model prog w) os A.in1 (.call (.builtin newId) ⟨.type Ty :: args, []⟩) h fun f h' => ∃ a, f = .ret (.ref a) ∧ Q₁ a h')
    (hnext : ∀ a h₁, Q₁ a h₁ → (∃ o, h₁.get? a = some o ∧ o.cls = .type Ty) ∧ argsOk initId ⟨.ref a :: args, []⟩ ∧
      T (model prog w) os A.in1.in1 (Bi ⟨.ref a :: args, []⟩) h₁ (FinT (model prog w) os A.in1 fun f h₂ => f = .ret .none ∧ Q (.ref a) h₂)) :
    T (model prog w) os A (PySem.call (.type Ty) args) h Q := by
  obtain ⟨c, tl, hmro⟩ := ft.mro
  refine T.call (CT.tree rfl ?_)
  show T _ _ _ (callAny (.type Ty) _) _ _
  refine T.pure ⟨Code.quiet_builtin _ (by decide +kernel), CT.builtin F.entry_type_call (by decide +kernel) ?_⟩
  rw [Around.under_plain (weight_type_call_type Ty args []) (units_type_call_type Ty args [])]
  have h1 := ft.notType
  have h2 := ft.canCreate
  unfold Builtin.«type.__call__»
  dsimp only
  rw [h1]
  refine T.ite_false Bool.false_ne_true ?_
  refine T.ite_false (by rw [h2]; exact Bool.false_ne_true) ?_
  refine T.bind (T.eq hct ?_)
  refine T.bind (T.eq hmro ?_)
  refine T.ite_false Bool.false_ne_true ?_
  refine T.bind (T.eq ft.made ?_)
  refine T.bind (T.pure ?_)
  refine T.bind (T.holding (T.call (CT.mono hnew fun f h' x => ?_)))
  obtain ⟨a, rfl, q⟩ := x
  refine ⟨_, rfl, ?_⟩
  obtain ⟨⟨o, ho, hc⟩, hok, hi⟩ := hnext a h' q
  refine T.bind (T.isInstance ho hc ft.sub ?_)
  refine T.ite_false Bool.false_ne_true ?_
  refine T.bind (T.holding ?_)
  unfold callSpecial?
  refine T.bind (T.specialOf ho hc ft.init.lookup ?_)
  refine T.holding (T.bind (T.eq (ft.init.bind _) ?_))
  refine T.bind (T.call (CT.mono (CT.callBuiltin ft.init.plain entryI hdI (T.any fun s e g o' => ?_) hi) fun f h₂ x => ?_))
  · exact ft.init.check _ _ _ _ _ _ _ _ (show s.TypeIs (.ref a) Ty from ⟨o, by rw [e]; exact ho, hc⟩) hok ⟨g, o', e⟩
  · obtain ⟨rfl, q⟩ := x
    exact ⟨_, rfl, T.pure (T.pure ⟨_, rfl, q⟩)⟩
end

namespace BF
set_option maxRecDepth 100000
theorem mro : mroOf (.type "bytearray") = pure [.type "bytearray", .type "object"] := by rw [mroOf_type]; kernel_rfl
theorem lookup_new : typeLookup (.type "bytearray") "__new__" = pure (some (.builtin "bytearray.__new__")) := by rw [typeLookup_type, builtinLookup_eq_fast]; kernel_rfl
theorem slot_init : Slot "bytearray" "__init__" "bytearray.__init__" :=
  .of (owner := "bytearray") (n := "__init__") (by rw [typeLookup_type, builtinLookup_eq_fast]; kernel_rfl) (by decide +kernel) (by decide +kernel) (by decide +kernel)
    (by first | exact .inl (by decide +kernel) | exact .inr (by decide +kernel)) (by rw [isSubtype_type]; kernel_rfl)
theorem called : TypeCalled "bytearray" "bytearray.__new__" "bytearray.__init__" :=
  ⟨by decide +kernel, by decide +kernel, ⟨_, _, mro⟩, madeBy_type mro lookup_new (by decide +kernel), by decide +kernel, by rw [isSubtype_type]; kernel_rfl, slot_init⟩
theorem typeCall (a : Value) : checkTypeCall "bytearray" ⟨[a], []⟩ = pure () := by kernel_rfl
theorem newCall (a : Value) : checkBuiltinCall "bytearray.__new__" ⟨[.type "bytearray", a], []⟩ = pure () := by kernel_rfl
theorem entry_new : entryFor table "bytearray.__new__" = some Builtin.«list.__new__» := entryFor_alias (id' := "list.__new__") (by rw [fastTable_eq_tree]; kernel_rfl) (by decide +kernel) (by decide +kernel) (by rw [fastTable_eq_tree]; kernel_rfl)
theorem entry_init : entryFor table "bytearray.__init__" = some Builtin.«bytearray.__init__» := entryFor_of_tree (by kernel_rfl)
theorem plain_new : plainId "bytearray.__new__" = true := by decide +kernel
theorem sub_self : isSubtype (.type "bytearray") (.type "bytearray") = pure true := by rw [isSubtype_type]; kernel_rfl
theorem args_init (a b : Value) : argsOk "bytearray.__init__" ⟨[a, b], []⟩ := by unfold argsOk; kernel_rfl
theorem look_release : typeLookup (.type "bytearray") "__release_buffer__" = pure (some (.builtin "bytearray.__release_buffer__")) := by rw [typeLookup_type, builtinLookup_eq_fast]; kernel_rfl
theorem look_buffer : typeLookup (.type "bytearray") "__buffer__" = pure (some (.builtin "bytearray.__buffer__")) := by rw [typeLookup_type, builtinLookup_eq_fast]; kernel_rfl
theorem bind3 (v : Value) : Builtin.Bytes.bindOptional "bytearray.__init__" "bytearray" ["source", "encoding", "errors"] [v] [] = pure [some v, none, none] := by kernel_rfl
end BF
end Mine
namespace Mine
section
variable {prog : Program} {w : World} {A : Around} {os : OsState} {h : Heap}
noncomputable abbrev baObj (b : Array UInt8) : Obj := { cls := .type "bytearray", data := .bytearray b }

theorem owner_ba : ("bytearray.__new__".splitOn ".__new__").headD "" = "bytearray" := by rw [PySem.W.split_bytearray]; rfl
theorem CT.baNew (a : Value) : CT (model prog w) os A (.call (.builtin "bytearray.__new__") ⟨[.type "bytearray", a], []⟩) h fun f h' => ∃ x, f = .ret (.ref x) ∧ x = h.objs.size ∧ h' = h.push (baObj #[]) := by
  refine CT.any fun s e g o => codeAny_of_tree ?_
  subst e
  show wpAny _ A.in1 (do checkBuiltinCall "bytearray.__new__" ⟨[.type "bytearray", a], []⟩; again (.builtin "bytearray.__new__" ⟨[.type "bytearray", a], []⟩)) _ _ s
  refine wpAny_bind (wpAny_of_eq (BF.newCall a) (wpAny_pure ⟨plainId_quiet BF.plain_new _, codeAny_builtin_stack BF.entry_new rfl fun p st => ?_⟩))
  rw [Around.under_plainId BF.plain_new _]
  have hsub := BF.sub_self
  have hown := owner_ba
  obtain ⟨hp, g', d, tk, os'⟩ := s
  simp only [hown]
  wp_walk
  exact ⟨_, rfl, g, o, _, rfl, rfl, rfl⟩

theorem T.exported {a : Addr} {Q : Bool → Heap → Prop} (hg : A.guards = some []) (k : Q false h) : T (model prog w) os A (Builtin.Bytes.exported (.ref a)) h Q := by
  intro s e g o Γ p hΓ hc
  unfold Builtin.Bytes.exported
  show Sem.wp _ Γ (PySem.stack >>= fun st => Pure.pure (st.any _)) _ _ p s
  rw [wp_look]
  have key : (((Γ.code, p) :: Γ.below).any fun (x : Code × Pos) => match x with
    | (.builtin "bytearray.__contains__" ⟨v :: _, _⟩, _) | (.builtin "bytearray.__mod__" ⟨v :: _, _⟩, _)
    | (.builtin "bytearray.__rmod__" ⟨_ :: v :: _, _⟩, _) | (.builtin "_struct.pack_into.held" ⟨v :: _, _⟩, _) => Builtin.Bytes.sameRef v (.ref a)
    | (.builtin "bytearray.find.held" ⟨_ :: _ :: held, _⟩, _) => held.any (Builtin.Bytes.sameRef (.ref a))
    | (.builtin id ⟨v :: _, _⟩, _) => Builtin.Bytes.sameRef v (.ref a) && Builtin.Bytes.decodersThatHold.contains id
    | _ => false) = false := by
    have hgs : guardsOf ((Γ.code, p) :: Γ.below) = [] := by rw [guardsOf_cons]; exact hΓ.2.2.2.1 _ hg
    generalize ((Γ.code, p) :: Γ.below) = st at hgs hc
    induction st with
    | nil => rfl
    | cons x st ih =>
      obtain ⟨c, q⟩ := x
      rw [guardsOf_cons] at hgs
      obtain ⟨h1, h2⟩ := List.append_eq_nil_iff.mp hgs
      unfold cleanSt at hc
      rw [List.all_cons] at hc
      obtain ⟨h3, h4⟩ := Bool.and_eq_true_iff.mp hc
      rw [List.any_cons, ih h2 h4, Bool.or_false]
      have hng : c.isGuard = false := by
        cases hh : c.isGuard with
        | false => rfl
        | true => simp [Code.guards, hh] at h1
      have hnh : holder c = false := by simpa using h3

      split
      all_goals first
        | rfl
        | (rename_i heq; cases heq; exfalso; revert hng; simp [Code.isGuard, guardIds]; done)
        | (rename_i heq; cases heq; exact (congrArg _ hnh).trans (Bool.and_false _))
  have fin : Sem.wp (model prog w) Γ (Pure.pure false : Sem Bool) (fun a s' => fun s'' => s''.gens = #[] ∧ s''.os = os ∧ Q a s''.heap) (fun _ _ => fun _ => False) p s := by
    rw [Sem.wp_pure']; exact ⟨g, o, e ▸ k⟩
  refine Eq.mp ?_ fin
  congr 1
  exact congrArg (Pure.pure (f := Sem)) key.symm
end
end Mine
namespace Mine

theorem push_update (h : Heap) (o : Obj) (f : Obj → Obj) : (h.push o).update h.objs.size f = h.push (f o) := by
  obtain ⟨objs, l⟩ := h
  simp only [Heap.push, Heap.update, Heap.mk.injEq, and_true]
  apply Array.ext
  · simp
  · intro i h1 h2
    simp only [Array.getElem_modify, Array.getElem_push]
    by_cases hi : i < objs.size
    · have : objs.size ≠ i := by lia
      simp [hi, this]
    · have : objs.size = i := by simp at h2; lia
      simp [this]
theorem get_push_self (h : Heap) (o : Obj) (hf : o.isFreed = false) : (h.push o).get? h.objs.size = some o := Heap.get?_push_size _ hf

section
variable {prog : Program} {w : World} {A : Around} {os : OsState} {h : Heap}

theorem noIndex_bytes : typeLookup (.type "bytes") "__index__" = pure none := by rw [typeLookup_type, builtinLookup_eq_fast]; kernel_rfl
theorem ba_ends : (!"bytearray.__release_buffer__".endsWith ("." ++ "__release_buffer__")) = false := by decide +kernel
set_option linter.deprecated false in
theorem ba_drop : "bytearray.__release_buffer__".dropRight ("__release_buffer__".length + 1) = "bytearray" := by decide +kernel
theorem ba_ends' : (!"bytearray.__buffer__".endsWith ("." ++ "__buffer__")) = false := by decide +kernel
set_option linter.deprecated false in
theorem ba_drop' : "bytearray.__buffer__".dropRight ("__buffer__".length + 1) = "bytearray" := by decide +kernel
theorem T.ownRelease {a : Addr} {o : Obj} {Q : Bool → Heap → Prop} (ho : h.get? a = some o) (hc : o.cls = .type "bytearray") (k : Q false h) : T (model prog w) os A (Builtin.Bytes.ownRelease (.ref a)) h Q := by
  unfold Builtin.Bytes.ownRelease Builtin.Bytes.slotIsOwn
  refine T.bind (T.bind (T.specialOf ho hc BF.look_release ?_))
  dsimp only
  refine T.ite_false (by rw [ba_ends]; exact Bool.false_ne_true) ?_
  rw [ba_drop]
  exact T.isInstance ho hc BF.sub_self (T.pure k)
theorem T.ownBuffer {a : Addr} {o : Obj} {Q : Bool → Heap → Prop} (ho : h.get? a = some o) (hc : o.cls = .type "bytearray") (k : Q true h) : T (model prog w) os A (Builtin.Bytes.slotIsOwn (.ref a) "__buffer__") h Q := by
  unfold Builtin.Bytes.slotIsOwn
  refine T.bind (T.specialOf ho hc BF.look_buffer ?_)
  dsimp only
  refine T.ite_false (by rw [ba_ends']; exact Bool.false_ne_true) ?_
  rw [ba_drop']
  exact T.isInstance ho hc BF.sub_self k
theorem T.payload {a : Addr} {b : Array UInt8} {Q : Array UInt8 → Heap → Prop} (ho : h.get? a = some (baObj b)) (k : Q b h) : T (model prog w) os A (Builtin.Bytes.payload (.ref a)) h Q := by
  unfold Builtin.Bytes.payload Builtin.Bytes.payload?
  exact T.bind (T.bind (T.load ho (T.pure (T.pure k))))
/-- a bytearray lends its bytes -/
theorem T.buffer {id : String} {a : Addr} {b : Array UInt8} {full : Bool} {Q : Option (Array UInt8) → Heap → Prop} (ho : h.get? a = some (baObj b)) (k : Q (some b) h) : T (model prog w) os A (Builtin.Bytes.buffer? id (.ref a) full) h Q := by
  unfold Builtin.Bytes.buffer?
  refine T.bind (T.specialOf ho rfl BF.look_buffer ?_)
  refine T.bind (T.ownBuffer ho rfl ?_)
  refine T.ite_false Bool.false_ne_true ?_
  refine T.bind (T.specialOf ho rfl BF.look_buffer ?_)
  dsimp only
  refine T.bind (T.ownRelease ho rfl ?_)
  refine T.ite_false Bool.false_ne_true ?_
  exact T.bind (T.payload ho (T.pure k))
theorem T.write {a : Addr} {b : Array UInt8} {f : Array UInt8 → Array UInt8} {Q : Unit → Heap → Prop} (ho : h.get? a = some (baObj b)) (hz : (f b).size ≤ sizeLine) (k : Q () (h.update a (Obj.mapBytearray f))) :
    T (model prog w) os A (Builtin.Bytes.write (.ref a) f) h Q := by
  show T _ _ _ (updateBytearray a f) _ _
  unfold updateBytearray
  refine T.bind (T.load ho ?_)
  dsimp only
  refine T.bind (T.any fun s e g o => wpAny_update (by rw [e]; exact ho) ⟨g, o, ?_⟩)
  subst e
  refine T.any fun s' e' g' o' => wpAny_lookBehind (o := baObj (f b)) (by rw [e']; exact Heap.get?_update_self (Obj.mapBytearray f) ho rfl) ?_ ⟨g', o', e' ▸ k⟩
  show (if (f b).size > sizeLine then some "bytearray:memory" else none) = none
  rw [if_neg (Nat.not_lt.mpr hz)]

theorem T.orNo {x y : Sem Bool} {Q : Bool → Heap → Prop} (k : T (model prog w) os A x h fun b h' => b = false ∧ T (model prog w) os A y h' Q) : T (model prog w) os A (x <||> y) h Q := by
  show T _ _ _ (x >>= fun b => _) _ _
  refine T.bind (T.mono k fun b h' z => ?_)
  obtain ⟨rfl, z⟩ := z
  exact z
theorem update_id {a : Addr} {o : Obj} {f : Obj → Obj} (ho : h.get? a = some o) (hf : f o = o) : h.update a f = h := by
  obtain ⟨objs, l⟩ := h
  simp only [Heap.update, Heap.mk.injEq, and_true]
  have e : objs[a]? = some o := by
    unfold Heap.get? at ho
    split at ho
    · cases ho
    · exact ho
  apply Array.ext
  · simp
  · intro i h1 h2
    simp only [Array.getElem_modify]
    split
    · rename_i q
      subst q
      rw [Array.getElem?_eq_getElem h2] at e
      rw [Option.some.inj e, hf]
    · rfl
theorem up0 {a : Addr} (ho : h.get? a = some (baObj #[])) : h.update a (Obj.mapBytearray fun _ => #[]) = h := update_id ho rfl
theorem T.baInit_int {a : Addr} {n : Int} {t : Tok} {Q : Fin → Heap → Prop} (hg : A.guards = some []) (ho : h.get? a = some (baObj #[])) (h0 : 0 ≤ n) (hz : n ≤ 16777216)
    (k : ∀ h', h' = h.update a (Obj.mapBytearray fun _ => Array.replicate n.toNat 0) → Q (.done (.ret .none)) h') : T (model prog w) os A (Builtin.«bytearray.__init__» ⟨[.ref a, .int n t], []⟩) h Q := by
  unfold Builtin.«bytearray.__init__»
  dsimp only
  refine T.bind (T.ownRelease ho rfl ?_)
  refine T.ite_false Bool.false_ne_true ?_
  refine T.bind (T.eq (BF.bind3 _) ?_)
  dsimp only
  refine T.bind (T.eq (a := ()) rfl ?_)
  refine T.bind (T.eq (a := ()) rfl ?_)
  refine T.bind (T.orNo (T.exported hg ⟨rfl, ?_⟩))
  refine T.bind (T.bind (T.load ho ?_))
  refine T.pure (T.pure ?_)
  refine T.ite_false (by decide) ?_
  refine T.bind (T.write ho (Nat.zero_le _) ?_)
  rw [up0 ho]
  refine T.bind (T.eq (a := none) rfl ?_)
  refine T.ite_false Bool.false_ne_true ?_
  refine T.bind (T.eq (a := ()) rfl ?_)
  refine T.bind (T.any fun s e g o => wpAny_specialOf (T := "int") (typeIs_int s n t) F.slot_int_index.lookup ⟨g, o, ?_⟩)
  subst e
  refine T.ite_true rfl ?_
  refine T.bind (T.attempt (T.eq (a := n) rfl ?_))
  dsimp only
  refine T.ite_false (by simp only [Builtin.Bytes.fitsIndex, Bool.not_eq_true', Bool.and_eq_false_iff, decide_eq_false_iff_not]; lia) ?_
  refine T.ite_false (by lia) ?_
  refine T.ite_false (by simp; lia) ?_
  refine T.ite_false (by simp only [Builtin.Bytes.tooLong, sizeLine_eq, decide_eq_true_eq]; lia) ?_
  refine T.bind (T.rule ?_)
  by_cases hn : n > 0
  · refine T.ite_true hn ?_
    refine T.bind (T.write ho (by rw [Array.size_replicate, sizeLine_eq]; lia) ?_)
    exact T.bind (T.pure (T.pure (k _ rfl)))
  · refine T.ite_false hn ?_
    refine T.pure ?_
    have e : n.toNat = 0 := by lia
    have := k _ rfl
    rw [e] at this
    rw [show (Array.replicate 0 (0 : UInt8)) = #[] from rfl, up0 ho] at this
    exact this
theorem T.baInit_bytes {a : Addr} {b : Array UInt8} {t : Tok} {Q : Fin → Heap → Prop} (hg : A.guards = some []) (ho : h.get? a = some (baObj #[])) (hz : b.size ≤ 16777216)
    (k : ∀ h', h' = h.update a (Obj.mapBytearray fun _ => b) → Q (.done (.ret .none)) h') : T (model prog w) os A (Builtin.«bytearray.__init__» ⟨[.ref a, .bytes b t], []⟩) h Q := by
  unfold Builtin.«bytearray.__init__»
  dsimp only
  refine T.bind (T.ownRelease ho rfl ?_)
  refine T.ite_false Bool.false_ne_true ?_
  refine T.bind (T.eq (BF.bind3 _) ?_)
  dsimp only
  refine T.bind (T.eq (a := ()) rfl ?_)
  refine T.bind (T.eq (a := ()) rfl ?_)
  refine T.bind (T.orNo (T.exported hg ⟨rfl, ?_⟩))
  refine T.bind (T.bind (T.load ho ?_))
  refine T.pure (T.pure ?_)
  refine T.ite_false (by decide) ?_
  refine T.bind (T.write ho (Nat.zero_le _) ?_)
  rw [up0 ho]
  refine T.bind (T.eq (a := none) rfl ?_)
  refine T.ite_false Bool.false_ne_true ?_
  refine T.bind (T.eq (a := ()) rfl ?_)
  refine T.bind (T.eq (KBy.special_eq noIndex_bytes) ?_)
  refine T.ite_false Bool.false_ne_true ?_
  refine T.bind (T.eq KBy.buffer_eq ?_)
  dsimp only
  refine T.bind (T.rule ?_)
  refine T.bind (T.write ho (by rw [sizeLine_eq]; exact hz) ?_)
  exact T.bind (T.pure (T.pure (k _ rfl)))

theorem T.callBa {v : Value} {b : Array UInt8} {Q : Value → Heap → Prop} (hg : A.guards = some [])
    (hi : ∀ {A' : Around} {h : Heap} {a : Addr} {Q : Fin → Heap → Prop}, A'.guards = some [] → h.get? a = some (baObj #[]) → (∀ h', h' = h.update a (Obj.mapBytearray fun _ => b) → Q (.done (.ret .none)) h') →
      T (model prog w) os A' (Builtin.«bytearray.__init__» ⟨[.ref a, v], []⟩) h Q)
    (k : Q (.ref h.objs.size) (h.push (baObj b))) : T (model prog w) os A (PySem.call (.type "bytearray") [v]) h Q := by
  refine T.callType (Q₁ := fun a h' => a = h.objs.size ∧ h' = h.push (baObj #[])) BF.called (BF.typeCall v) BF.entry_init (by decide +kernel) (CT.mono (CT.baNew v) fun f h' x => ?_) fun a h₁ q => ?_
  · obtain ⟨x, rfl, e1, e2⟩ := x
    exact ⟨x, rfl, e1, e2⟩
  · obtain ⟨rfl, rfl⟩ := q
    have ho := get_push_self h (baObj #[]) rfl
    refine ⟨⟨_, ho, rfl⟩, BF.args_init _ _, hi hg ho fun h' e => ⟨rfl, ?_⟩⟩
    rw [e, push_update]
    exact k
/-- bytearray(n) -/
theorem T.callBa_int {n : Int} {t : Tok} {Q : Value → Heap → Prop} (hg : A.guards = some []) (h0 : 0 ≤ n) (hz : n ≤ 16777216)
    (k : Q (.ref h.objs.size) (h.push (baObj (Array.replicate n.toNat 0)))) : T (model prog w) os A (PySem.call (.type "bytearray") [.int n t]) h Q :=
  T.callBa hg (fun g o k => T.baInit_int g o h0 hz k) k
/-- bytearray(b'..') -/
theorem T.callBa_bytes {b : Array UInt8} {t : Tok} {Q : Value → Heap → Prop} (hg : A.guards = some []) (hz : b.size ≤ 16777216)
    (k : Q (.ref h.objs.size) (h.push (baObj b))) : T (model prog w) os A (PySem.call (.type "bytearray") [.bytes b t]) h Q :=
  T.callBa hg (fun g o k => T.baInit_bytes g o hz k) k
end
end Mine
namespace Mine

/-- a value without its token; an object by its number -/
inductive AV where
  | none | bool (b : Bool) | int (i : Int) | str (s : Str) | bytes (b : List UInt8) | obj (i : Nat) | st (v : Value)
  deriving DecidableEq, Inhabited
inductive Cl where
  | builder | table
  deriving DecidableEq, Inhabited
noncomputable def Cl.addr : Cl → Addr
  | .builder => 749
  | .table => 263
/-- an object of the call's own -/
inductive AO where
  | ba (b : List UInt8)
  | list (w : Bool) (xs : List AV)
  | tup (xs : List AV)
  | edict
  | junk
  | cell (v : Option AV)
  | inst (c : Cl) (d : Nat) (slots : List (Option AV))
  deriving DecidableEq, Inhabited
noncomputable abbrev AH := List AO

noncomputable def VRel (ρ : List Addr) : AV → Value → Prop
  | .none, v => v = .none
  | .bool b, v => v = .bool b
  | .int i, v => ∃ t, v = .int i t
  | .str s, v => ∃ t, v = .str s t
  | .bytes b, v => ∃ t, v = .bytes b.toArray t
  | .obj i, v => ∃ a, ρ[i]? = some a ∧ v = .ref a
  | .st x, v => v = x
noncomputable def VRels (ρ : List Addr) : List AV → List Value → Prop
  | [], [] => True
  | a :: as, v :: vs => VRel ρ a v ∧ VRels ρ as vs
  | _, _ => False
noncomputable def SRel (ρ : List Addr) : Option AV → Option Value → Prop
  | some a, v => ∃ x, v = some x ∧ VRel ρ a x
  | none, _ => True
noncomputable def ORel (ρ : List Addr) : AO → Obj → Prop
  | .ba b, o => o = baObj b.toArray
  | .list w xs, o => o.cls = .type "list" ∧ (w = true → o.dict = none ∧ o.slots = #[]) ∧ ∃ n vs, o.data = .seq vs.toArray n ∧ VRels ρ xs vs
  | .tup xs, o => o.cls = .type "tuple" ∧ ∃ n vs, o.data = .seq vs.toArray n ∧ VRels ρ xs vs
  | .edict, o => o = emptyDict
  | .junk, _ => True
  | .cell v, o => ∃ u, o.data = .cell u ∧ SRel ρ v u
  | .inst c d sl, o => o.cls = .ref c.addr ∧ o.data = .plain ∧ (∃ dx, ρ[d]? = some dx ∧ o.dict = some dx) ∧ ∀ i : Nat, SRel ρ (sl[i]?).join (o.slots[i]?).join

/-- a list of the caller's: it is not turned -/
noncomputable def AO.fixed : AO → Bool
  | .list false _ => true
  | _ => false
structure Rep (h₀ : Heap) (ρ : List Addr) (σ : AH) (h : Heap) : Prop where
  len : ρ.length = σ.length
  nodup : ρ.Nodup
  at_ : ∀ (i : Nat) (a : Addr) (ao : AO), ρ[i]? = some a → σ[i]? = some ao → ∃ o, h.get? a = some o ∧ ORel ρ ao o
  fresh : ∀ (i : Nat) (a : Addr) (ao : AO), ρ[i]? = some a → σ[i]? = some ao → ao.fixed = false → h₀.objs.size ≤ a
  big : sysModules < h₀.objs.size
  wit : ∃ z, h₀.objs.size ≤ z ∧ (h.get? z).isSome = true
  keep : ∀ b o, h₀.get? b = some o → h.get? b = some o
structure Ext (ρ : List Addr) (h : Heap) (ρ' : List Addr) (h' : Heap) : Prop where
  pre : ∃ ts, ρ' = ρ ++ ts
  new : ∀ a ∈ ρ', a ∈ ρ ∨ h.get? a = none
  keep : ∀ b o, h.get? b = some o → b ∉ ρ → h'.get? b = some o

theorem none_of_size (h : Heap) : h.get? h.objs.size = none := by
  cases e : h.get? h.objs.size with
  | none => rfl
  | some o => exact absurd (Heap.lt_size e) (Nat.lt_irrefl _)
theorem pre_get {ρ ts : List Addr} {i : Nat} {a : Addr} (e : ρ[i]? = some a) : (ρ ++ ts)[i]? = some a := by
  have hl := (List.getElem?_eq_some_iff.mp e).1
  rw [List.getElem?_append_left hl]; exact e
theorem VRel.mono {ρ ts : List Addr} : ∀ {a : AV} {v : Value}, VRel ρ a v → VRel (ρ ++ ts) a v
  | .none, _, h | .bool _, _, h | .int _, _, h | .str _, _, h | .bytes _, _, h | .st _, _, h => h
  | .obj _, _, ⟨a, e, r⟩ => ⟨a, pre_get e, r⟩
theorem VRels.mono {ρ ts : List Addr} : ∀ {as : List AV} {vs : List Value}, VRels ρ as vs → VRels (ρ ++ ts) as vs
  | [], [], _ => trivial
  | _ :: _, _ :: _, h => ⟨h.1.mono, VRels.mono h.2⟩
theorem SRel.mono {ρ ts : List Addr} : ∀ {a : Option AV} {v : Option Value}, SRel ρ a v → SRel (ρ ++ ts) a v
  | some _, _, ⟨x, e, h⟩ => ⟨x, e, h.mono⟩
  | none, _, _ => trivial
theorem ORel.mono {ρ ts : List Addr} : ∀ {a : AO} {o : Obj}, ORel ρ a o → ORel (ρ ++ ts) a o
  | .ba _, _, h | .edict, _, h | .junk, _, h => h
  | .list _ _, _, ⟨c, q, n, vs, d, r⟩ => ⟨c, q, n, vs, d, r.mono⟩
  | .tup _, _, ⟨c, n, vs, d, r⟩ => ⟨c, n, vs, d, r.mono⟩
  | .cell _, _, ⟨u, e, r⟩ => ⟨u, e, r.mono⟩
  | .inst _ _ _, _, ⟨c, d, ⟨dx, e, q⟩, s⟩ => ⟨c, d, ⟨dx, pre_get e, q⟩, fun i => (s i).mono⟩
theorem VRel.ext {ρ ρ' : List Addr} {h h' : Heap} {a : AV} {v : Value} (x : Ext ρ h ρ' h') (r : VRel ρ a v) : VRel ρ' a v := by
  obtain ⟨ts, rfl⟩ := x.pre; exact r.mono
theorem VRels.ext {ρ ρ' : List Addr} {h h' : Heap} {a : List AV} {v : List Value} (x : Ext ρ h ρ' h') (r : VRels ρ a v) : VRels ρ' a v := by
  obtain ⟨ts, rfl⟩ := x.pre; exact r.mono
theorem VRels.length {ρ : List Addr} : ∀ {as : List AV} {vs : List Value}, VRels ρ as vs → as.length = vs.length
  | [], [], _ => rfl
  | _ :: _, _ :: _, h => by rw [List.length_cons, List.length_cons, VRels.length h.2]
theorem VRels.get {ρ : List Addr} : ∀ {as : List AV} {vs : List Value} {i : Nat} {a : AV}, VRels ρ as vs → as[i]? = some a → ∃ v, vs[i]? = some v ∧ VRel ρ a v
  | _ :: _, v :: _, 0, _, h, e => by cases e; exact ⟨v, rfl, h.1⟩
  | _ :: _, _ :: _, i + 1, _, h, e => by
    rw [List.getElem?_cons_succ] at e ⊢
    exact VRels.get h.2 e
theorem VRels.append {ρ : List Addr} : ∀ {as bs : List AV} {vs ws : List Value}, VRels ρ as vs → VRels ρ bs ws → VRels ρ (as ++ bs) (vs ++ ws)
  | [], _, [], _, _, h => h
  | _ :: _, _, _ :: _, _, h, k => ⟨h.1, VRels.append h.2 k⟩

theorem Ext.refl {ρ : List Addr} {h : Heap} : Ext ρ h ρ h := ⟨⟨[], (List.append_nil _).symm⟩, fun _ => .inl, fun _ _ e _ => e⟩
theorem Ext.trans {ρ ρ' ρ'' : List Addr} {h h' h'' : Heap} (x : Ext ρ h ρ' h') (y : Ext ρ' h' ρ'' h'') : Ext ρ h ρ'' h'' := by
  obtain ⟨ts, e⟩ := x.pre
  obtain ⟨us, e'⟩ := y.pre
  refine ⟨⟨ts ++ us, by rw [e', e, List.append_assoc]⟩, fun a ha => ?_, fun b o hb hn => ?_⟩
  · rcases y.new a ha with q | q
    · exact x.new a q
    · by_cases z : a ∈ ρ
      · exact .inl z
      · refine .inr ?_
        cases e : h.get? a with
        | none => rfl
        | some o => rw [x.keep a o e z] at q; cases q
  · refine y.keep b o (x.keep b o hb hn) fun q => ?_
    rcases x.new b q with z | z
    · exact hn z
    · rw [z] at hb; cases hb

section
variable {h₀ h h' : Heap} {ρ : List Addr} {σ : AH}
theorem Rep.lt (R : Rep h₀ ρ σ h) {a : Addr} (ha : a ∈ ρ) : a < h.objs.size := by
  obtain ⟨i, hi, e⟩ := List.getElem_of_mem ha
  have e1 : ρ[i]? = some a := by rw [List.getElem?_eq_getElem hi, e]
  have hs : i < σ.length := R.len ▸ hi
  obtain ⟨o, ho, _⟩ := R.at_ i a _ e1 (List.getElem?_eq_getElem hs)
  exact Heap.lt_size ho
theorem Rep.get (R : Rep h₀ ρ σ h) {i : Nat} {a : Addr} {ao : AO} (e : σ[i]? = some ao) (r : ρ[i]? = some a) : ∃ o, h.get? a = some o ∧ ORel ρ ao o := R.at_ i a ao r e
/-- the heap turned elsewhere -/
theorem Rep.other (R : Rep h₀ ρ σ h) (k : ∀ a ∈ ρ, ∀ o, h.get? a = some o → h'.get? a = some o) (k0 : ∀ b o, h₀.get? b = some o → h'.get? b = some o) (kw : ∀ z, (h.get? z).isSome = true → (h'.get? z).isSome = true) : Rep h₀ ρ σ h' :=
  ⟨R.len, R.nodup, fun i a ao e1 e2 => by
    obtain ⟨o, ho, r⟩ := R.at_ i a ao e1 e2
    exact ⟨o, k a (List.mem_of_getElem? e1) o ho, r⟩, R.fresh, R.big, R.wit.imp fun z q => ⟨q.1, kw z q.2⟩, k0⟩
theorem some_keep (k : ∀ b o, h.get? b = some o → h'.get? b = some o) (z : Addr) (e : (h.get? z).isSome = true) : (h'.get? z).isSome = true := by
  obtain ⟨o, e⟩ := Option.isSome_iff_exists.mp e
  rw [k z o e]; rfl
theorem Rep.garbage (R : Rep h₀ ρ σ h) (o : Obj) : Rep h₀ ρ σ (h.push o) :=
  R.other (fun a _ o' e => Heap.get?_push_of_some _ e) (fun b o' e => Heap.get?_push_of_some _ (R.keep b o' e)) (some_keep fun _ _ e => Heap.get?_push_of_some _ e)
theorem Ext.garbage (o : Obj) : Ext ρ h ρ (h.push o) := ⟨⟨[], (List.append_nil _).symm⟩, fun _ => .inl, fun _ _ e _ => Heap.get?_push_of_some _ e⟩
theorem Rep.grown (R : Rep h₀ ρ σ h) (k : ∀ b o, h.get? b = some o → h'.get? b = some o) : Rep h₀ ρ σ h' := R.other (fun a _ o e => k a o e) (fun b o e => k b o (R.keep b o e)) (some_keep k)
theorem Ext.grown (k : ∀ b o, h.get? b = some o → h'.get? b = some o) : Ext ρ h ρ h' := ⟨⟨[], (List.append_nil _).symm⟩, fun _ => .inl, fun b o e _ => k b o e⟩

theorem Rep.base (R : Rep h₀ ρ σ h) : h₀.objs.size ≤ h.objs.size := by
  obtain ⟨z, hz, w⟩ := R.wit
  obtain ⟨o, e⟩ := Option.isSome_iff_exists.mp w
  exact Nat.le_of_lt (Nat.lt_of_le_of_lt hz (Heap.lt_size e))
theorem Rep.notin (R : Rep h₀ ρ σ h) : h.objs.size ∉ ρ := fun q => Nat.lt_irrefl _ (R.lt q)
theorem Rep.low (R : Rep h₀ ρ σ h) {i : Nat} {a : Addr} {ao : AO} (r : ρ[i]? = some a) (e : σ[i]? = some ao) (hm : ao.fixed = false) : (a == sysModules) = false := by
  have h1 : ¬ a = sysModules := fun q => Nat.lt_irrefl _ (q ▸ Nat.lt_of_lt_of_le R.big (R.fresh i a ao r e hm))
  simpa using h1
/-- an object that is not ours becomes one -/
theorem Rep.add (R : Rep h₀ ρ σ h) (k : ∀ b o, h.get? b = some o → h'.get? b = some o) {c : Addr} {o : Obj} {ao : AO} (ho : h'.get? c = some o) (r : ORel (ρ ++ [c]) ao o) (hn : h.get? c = none) (hf : ao.fixed = false → h₀.objs.size ≤ c) :
    Rep h₀ (ρ ++ [c]) (σ ++ [ao]) h' := by
  have hni : c ∉ ρ := fun q => by
    obtain ⟨i, hi, e⟩ := List.getElem_of_mem q
    have e1 : ρ[i]? = some c := by rw [List.getElem?_eq_getElem hi, e]
    obtain ⟨o', ho', _⟩ := R.at_ i c _ e1 (List.getElem?_eq_getElem (R.len ▸ hi))
    rw [hn] at ho'; cases ho'
  refine ⟨by rw [List.length_append, List.length_append, R.len]; rfl, ?_, fun i a ao' e1 e2 => ?_, fun i a ao' e1 e2 hm => ?_, R.big, R.wit.imp fun z q => ⟨q.1, some_keep k z q.2⟩, fun b o' e => k b o' (R.keep b o' e)⟩
  · refine List.nodup_append.mpr ⟨R.nodup, by simp, fun a ha b hb => ?_⟩
    rw [List.mem_singleton.mp hb]
    exact fun q => hni (q ▸ ha)
  · by_cases hi : i < ρ.length
    · rw [List.getElem?_append_left hi] at e1
      rw [List.getElem?_append_left (R.len ▸ hi)] at e2
      obtain ⟨o', ho', r'⟩ := R.at_ i a ao' e1 e2
      exact ⟨o', k a o' ho', r'.mono⟩
    · have hl := (List.getElem?_eq_some_iff.mp e1).1
      rw [List.length_append] at hl
      have : i = ρ.length := by simp at hl; lia
      subst this
      rw [List.getElem?_append_right (Nat.le_refl _)] at e1
      rw [R.len, List.getElem?_append_right (Nat.le_refl _)] at e2
      simp at e1 e2
      subst e1 e2
      exact ⟨o, ho, r⟩
  · by_cases hi : i < ρ.length
    · rw [List.getElem?_append_left hi] at e1
      rw [List.getElem?_append_left (R.len ▸ hi)] at e2
      exact R.fresh i a ao' e1 e2 hm
    · have hl := (List.getElem?_eq_some_iff.mp e1).1
      rw [List.length_append] at hl
      have : i = ρ.length := by simp at hl; lia
      subst this
      rw [List.getElem?_append_right (Nat.le_refl _)] at e1
      rw [R.len, List.getElem?_append_right (Nat.le_refl _)] at e2
      simp at e1 e2
      subst e1 e2
      exact hf hm
theorem Ext.add (k : ∀ b o, h.get? b = some o → h'.get? b = some o) {c : Addr} (hn : h.get? c = none) : Ext ρ h (ρ ++ [c]) h' :=
  ⟨⟨_, rfl⟩, fun a ha => by
    rcases List.mem_append.mp ha with q | q
    · exact .inl q
    · rw [List.mem_singleton.mp q]; exact .inr hn, fun b o e _ => k b o e⟩
/-- a new object -/
theorem Rep.push (R : Rep h₀ ρ σ h) (hz : h₀.objs.size ≤ h.objs.size) {o : Obj} {ao : AO} (r : ORel (ρ ++ [h.objs.size]) ao o) (hf : o.isFreed = false) : Rep h₀ (ρ ++ [h.objs.size]) (σ ++ [ao]) (h.push o) := by
  refine ⟨by rw [List.length_append, List.length_append, R.len]; rfl, ?_, fun i a ao' e1 e2 => ?_, fun i a ao' e1 e2 hm => ?_, R.big, R.wit.imp fun z q => ⟨q.1, some_keep (fun _ _ e => Heap.get?_push_of_some _ e) z q.2⟩, fun b o' e => Heap.get?_push_of_some _ (R.keep b o' e)⟩
  · refine List.nodup_append.mpr ⟨R.nodup, by simp, fun a ha b hb => ?_⟩
    rw [List.mem_singleton.mp hb]
    exact fun q => R.notin (q ▸ ha)
  · by_cases hi : i < ρ.length
    · rw [List.getElem?_append_left hi] at e1
      rw [List.getElem?_append_left (R.len ▸ hi)] at e2
      obtain ⟨o', ho, r'⟩ := R.at_ i a ao' e1 e2
      exact ⟨o', Heap.get?_push_of_some _ ho, r'.mono⟩
    · have hl := (List.getElem?_eq_some_iff.mp e1).1
      rw [List.length_append] at hl
      have : i = ρ.length := by simp at hl; lia
      subst this
      rw [List.getElem?_append_right (Nat.le_refl _)] at e1
      rw [R.len, List.getElem?_append_right (Nat.le_refl _)] at e2
      simp at e1 e2
      subst e1 e2
      exact ⟨o, get_push_self h o hf, r⟩
  · by_cases hi : i < ρ.length
    · rw [List.getElem?_append_left hi] at e1
      rw [List.getElem?_append_left (R.len ▸ hi)] at e2
      exact R.fresh i a ao' e1 e2 hm
    · have hl := (List.getElem?_eq_some_iff.mp e1).1
      rw [List.length_append] at hl
      have : i = ρ.length := by simp at hl; lia
      subst this
      rw [List.getElem?_append_right (Nat.le_refl _)] at e1
      simp at e1
      subst e1
      exact R.base
theorem Ext.push (o : Obj) : Ext ρ h (ρ ++ [h.objs.size]) (h.push o) :=
  ⟨⟨_, rfl⟩, fun a ha => by
    rcases List.mem_append.mp ha with q | q
    · exact .inl q
    · rw [List.mem_singleton.mp q]; exact .inr (none_of_size h), fun _ _ e _ => Heap.get?_push_of_some _ e⟩
theorem Rep.newAt (R : Rep h₀ ρ σ h) : (ρ ++ [h.objs.size])[σ.length]? = some h.objs.size := by
  rw [← R.len, List.getElem?_append_right (Nat.le_refl _)]; simp
/-- an object turned -/
theorem Rep.set (R : Rep h₀ ρ σ h) {i : Nat} {a : Addr} {f : Obj → Obj} {ao ao' : AO} {o : Obj} (e : ρ[i]? = some a) (q : σ[i]? = some ao) (hm : ao.fixed = false) (ho : h.get? a = some o) (hf : (f o).isFreed = false) (r : ORel ρ ao' (f o)) : Rep h₀ ρ (σ.set i ao') (h.update a f) := by
  have ha := List.mem_of_getElem? e
  refine ⟨by rw [List.length_set, R.len], R.nodup, fun j b ao e1 e2 => ?_, fun j b ao2 e1 e2 hm2 => ?_, R.big, ?_, fun b o' q' => ?_⟩
  · by_cases hj : i = j
    · subst hj
      rw [e] at e1; cases e1
      have hl : i < σ.length := R.len ▸ (List.getElem?_eq_some_iff.mp e).1
      rw [List.getElem?_set_self hl] at e2; cases e2
      exact ⟨f o, Heap.get?_update_self f ho hf, r⟩
    · rw [List.getElem?_set_ne hj] at e2
      obtain ⟨o', ho', r'⟩ := R.at_ j b ao e1 e2
      refine ⟨o', (Heap.get?_update_ne _ _ _ _ fun z => ?_).trans ho', r'⟩
      subst z
      have h1 := (List.getElem?_eq_some_iff.mp e).1
      have h2 := (List.getElem?_eq_some_iff.mp e1).1
      have q1 := (List.getElem?_eq_some_iff.mp e).2
      have q2 := (List.getElem?_eq_some_iff.mp e1).2
      exact hj ((List.getElem_inj R.nodup).mp (q1.trans q2.symm))
  · by_cases hj : i = j
    · subst hj
      rw [e] at e1; cases e1
      exact R.fresh i a ao e q hm
    · rw [List.getElem?_set_ne hj] at e2
      exact R.fresh j b ao2 e1 e2 hm2
  · obtain ⟨z, hz, w⟩ := R.wit
    refine ⟨z, hz, ?_⟩
    by_cases hza : z = a
    · rw [hza, Heap.get?_update_self f ho hf]; rfl
    · rw [Heap.get?_update_ne _ _ _ _ hza]; exact w
  · refine (Heap.get?_update_ne _ _ _ _ fun z => ?_).trans (R.keep b o' q')
    subst z
    exact absurd (Heap.lt_size q') (Nat.not_lt.mpr (R.fresh i _ ao e q hm))
theorem Ext.set {a : Addr} {f : Obj → Obj} (ha : a ∈ ρ) : Ext ρ h ρ (h.update a f) :=
  ⟨⟨[], (List.append_nil _).symm⟩, fun _ => .inl, fun b o e hn => (Heap.get?_update_ne _ b a f fun z => hn (by rw [z]; exact ha)).trans e⟩
end
end Mine
namespace Mine

/-- what is known of the heap ahead of the call -/
structure Base (w : World) (h₀ : Heap) : Prop where
  X : (hK w.params).In h₀
  top : ∃ p loose mg mb, TopRead p loose mg mb h₀
theorem Base.lim {w : World} {h₀ : Heap} (B : Base w h₀) : h₀.NoLimit := let ⟨_, _, _, _, t⟩ := B.top; t.nolimit
structure Cond (d : Nat) (A : Around) : Prop where
  depth : A.depth + 4 * d ≤ 900
  units : A.units + 20 * d ≤ 9000
  handled : A.handled = none
  guards : A.guards = some []
theorem Cond.le {d d' : Nat} {A : Around} (C : Cond d A) (h : d' ≤ d) : Cond d' A := ⟨by have := C.depth; lia, by have := C.units; lia, C.handled, C.guards⟩

/-- a def of the text -/
structure FI where
  addr : Addr
  qual : Str
  scope : Scope
  cd : Value
  names : List Str
  cl : Addr → List (Str × Addr) := fun _ => []
  ci : Nat := 0
noncomputable def FI.env (fi : FI) (L : Addr) : Env := envX fi.qual fi.scope L fi.addr fi.cd (fi.cl L)
structure FI.Ok (fi : FI) : Prop where
  kind : fi.scope.kind = .function
  loc : ∀ x ∈ fi.names, fi.scope.names.lookup x = some .local ∧ (x == ("__debug__" : Str)) = false
  nodup : fi.names.Nodup

noncomputable def VarsRel (ρ : List Addr) (names : List Str) (vars : List (Option AV)) (m : Str → Option Value) : Prop :=
  ∀ (i : Nat) (x : Str), names[i]? = some x → SRel ρ (vars[i]?).join (m x)
structure FS (fi : FI) (h₀ : Heap) (ρ : List Addr) (σ : AH) (h : Heap) (L : Addr) (m : Str → Option Value) (vars : List (Option AV)) : Prop where
  rep : Rep h₀ ρ σ h
  fr : Fr h₀ L h m
  out : L ∉ ρ
  vars : VarsRel ρ fi.names vars m
  cells : ∀ x a, (fi.cl L).lookup x = some a → ρ[fi.ci]? = some a

noncomputable abbrev Vars := List (Option AV)
noncomputable abbrev Ev := Vars → AH → Option (AV × AH)
noncomputable abbrev Bo := Vars → AH → Option (Bool × AH)
inductive Fl where
  | next | ret (v : AV) | cont | brk
  deriving DecidableEq, Inhabited
noncomputable abbrev Ex := Vars → AH → Option (Fl × Vars × AH)

/-- a value's end -/
noncomputable def VP (h₀ : Heap) (ρ : List Addr) (h : Heap) (a : AV) (σ' : AH) (v : Value) (h' : Heap) : Prop := ∃ ρ', Ext ρ h ρ' h' ∧ Rep h₀ ρ' σ' h' ∧ VRel ρ' a v
noncomputable def EvOK (fi : FI) (d : Nat) (f : Ev) (x : Expr) : Prop :=
  ∀ ⦃prog : Program⦄ {w : World} {os : OsState} {h₀ : Heap} {A : Around} {ρ : List Addr} {σ : AH} {h : Heap} {L : Addr} {m : Str → Option Value} {vars : Vars} {a : AV} {σ' : AH},
    Base w h₀ → Cond d A → fi.Ok → FS fi h₀ ρ σ h L m vars → f vars σ = some (a, σ') → T (model prog w) os A (eval x (fi.env L)) h (VP h₀ ρ h a σ')
noncomputable def BP (h₀ : Heap) (ρ : List Addr) (h : Heap) (a : Bool) (σ' : AH) (v : Bool) (h' : Heap) : Prop := v = a ∧ ∃ ρ', Ext ρ h ρ' h' ∧ Rep h₀ ρ' σ' h'
noncomputable def BoOK (fi : FI) (d : Nat) (f : Bo) (x : Expr) : Prop :=
  ∀ ⦃prog : Program⦄ {w : World} {os : OsState} {h₀ : Heap} {A : Around} {ρ : List Addr} {σ : AH} {h : Heap} {L : Addr} {m : Str → Option Value} {vars : Vars} {a : Bool} {σ' : AH},
    Base w h₀ → Cond d A → fi.Ok → FS fi h₀ ρ σ h L m vars → f vars σ = some (a, σ') → T (model prog w) os A (isTrue x (fi.env L) (eval x (fi.env L))) h (BP h₀ ρ h a σ')
noncomputable def FlRel (ρ : List Addr) : Fl → Flow → Prop
  | .next, f => f = .next
  | .cont, f => f = .cont
  | .brk, f => f = .brk
  | .ret a, f => ∃ v, f = .ret v ∧ VRel ρ a v
/-- a statement's end: the frame's own dict may have turned -/
structure ExtL (L : Addr) (ρ : List Addr) (h : Heap) (ρ' : List Addr) (h' : Heap) : Prop where
  pre : ∃ ts, ρ' = ρ ++ ts
  new : ∀ a ∈ ρ', a ∈ ρ ∨ h.get? a = none
  keep : ∀ b o, h.get? b = some o → b ∉ ρ → b ≠ L → h'.get? b = some o
  own : (h.get? L).isSome = true → (h'.get? L).isSome = true
noncomputable def XP (fi : FI) (h₀ : Heap) (ρ : List Addr) (h : Heap) (L : Addr) (a : Fl) (vars' : Vars) (σ' : AH) (f : Flow) (h' : Heap) : Prop := ∃ ρ' m', ExtL L ρ h ρ' h' ∧ FS fi h₀ ρ' σ' h' L m' vars' ∧ FlRel ρ' a f
noncomputable def ExOK (fi : FI) (d : Nat) (f : Ex) (x : Stmt) : Prop :=
  ∀ ⦃prog : Program⦄ {w : World} {os : OsState} {h₀ : Heap} {A : Around} {ρ : List Addr} {σ : AH} {h : Heap} {L : Addr} {m : Str → Option Value} {vars vars' : Vars} {a : Fl} {σ' : AH},
    Base w h₀ → Cond d A → fi.Ok → FS fi h₀ ρ σ h L m vars → f vars σ = some (a, vars', σ') → T (model prog w) os A (exec x (fi.env L)) h (XP fi h₀ ρ h L a vars' σ')
noncomputable def ExsOK (fi : FI) (d : Nat) (f : Ex) (x : List Stmt) : Prop :=
  ∀ ⦃prog : Program⦄ {w : World} {os : OsState} {h₀ : Heap} {A : Around} {ρ : List Addr} {σ : AH} {h : Heap} {L : Addr} {m : Str → Option Value} {vars vars' : Vars} {a : Fl} {σ' : AH},
    Base w h₀ → Cond d A → fi.Ok → FS fi h₀ ρ σ h L m vars → f vars σ = some (a, vars', σ') → T (model prog w) os A (execs x (fi.env L)) h (XP fi h₀ ρ h L a vars' σ')

section
variable {fi : FI} {h₀ h h' : Heap} {ρ ρ' : List Addr} {σ σ' : AH} {L : Addr} {m : Str → Option Value} {vars : Vars}
theorem FS.size (S : FS fi h₀ ρ σ h L m vars) : L < h.objs.size := by obtain ⟨o, _, _, ho, _⟩ := S.fr.ns; exact Heap.lt_size ho
theorem FS.step (S : FS fi h₀ ρ σ h L m vars) (x : Ext ρ h ρ' h') (R : Rep h₀ ρ' σ' h') : FS fi h₀ ρ' σ' h' L m vars := by
  refine ⟨R, ⟨?_, R.keep, S.fr.above⟩, fun q => ?_, fun i y e => ?_, fun y a e => by obtain ⟨ts, rfl⟩ := x.pre; exact pre_get (S.cells y a e)⟩
  · obtain ⟨o, es, ep, ho, r⟩ := S.fr.ns
    exact ⟨o, es, ep, x.keep _ _ ho S.out, r⟩
  · rcases x.new L q with z | z
    · exact S.out z
    · obtain ⟨o, _, _, ho, _⟩ := S.fr.ns
      rw [z] at ho; cases ho
  · obtain ⟨ts, rfl⟩ := x.pre
    exact (S.vars i y e).mono
theorem Ext.toL (x : Ext ρ h ρ' h') (hl : L ∉ ρ) : ExtL L ρ h ρ' h' := ⟨x.pre, x.new, fun b o e n _ => x.keep b o e n, fun e => by
  obtain ⟨o, e⟩ := Option.isSome_iff_exists.mp e
  rw [x.keep L o e hl]; rfl⟩
theorem ExtL.refl : ExtL L ρ h ρ h := ⟨⟨[], (List.append_nil _).symm⟩, fun _ => .inl, fun _ _ e _ _ => e, id⟩
theorem ExtL.trans {ρ'' : List Addr} {h'' : Heap} (x : ExtL L ρ h ρ' h') (y : ExtL L ρ' h' ρ'' h'') : ExtL L ρ h ρ'' h'' := by
  obtain ⟨ts, e⟩ := x.pre
  obtain ⟨us, e'⟩ := y.pre
  refine ⟨⟨ts ++ us, by rw [e', e, List.append_assoc]⟩, fun a ha => ?_, fun b o hb hn hl => ?_, fun e => y.own (x.own e)⟩
  · rcases y.new a ha with q | q
    · exact x.new a q
    · by_cases z : a ∈ ρ
      · exact .inl z
      · refine .inr ?_
        cases e : h.get? a with
        | none => rfl
        | some o =>
          by_cases hl : a = L
          · subst hl
            have := x.own (by rw [e]; rfl)
            rw [q] at this; cases this
          · rw [x.keep a o e z hl] at q; cases q
  · refine y.keep b o (x.keep b o hb hn hl) (fun q => ?_) hl
    rcases x.new b q with z | z
    · exact hn z
    · rw [z] at hb; cases hb
theorem FlRel.ext (x : ExtL L ρ h ρ' h') : ∀ {a : Fl} {f : Flow}, FlRel ρ a f → FlRel ρ' a f
  | .next, _, r | .cont, _, r | .brk, _, r => r
  | .ret _, _, ⟨v, e, r⟩ => by obtain ⟨ts, rfl⟩ := x.pre; exact ⟨v, e, r.mono⟩
/-- a local is stored -/
theorem FS.store (ok : fi.Ok) (S : FS fi h₀ ρ σ h L m vars) {i : Nat} {x : Str} {a : AV} {v : Value} (hx : fi.names[i]? = some x) (hi : i < vars.length) (r : VRel ρ a v) {m' : Str → Option Value}
    (F : Fr h₀ L h' m') (hm : m' = fun y => if y = x then some v else m y) (hs : Heap.SameBut L h h') : FS fi h₀ ρ σ h' L m' (vars.set i (some a)) ∧ ExtL L ρ h ρ h' := by
  have oth : ∀ b o, h.get? b = some o → b ≠ L → h'.get? b = some o := fun b o e n => (hs.2 b n).trans e
  have own : (h'.get? L).isSome = true := by
    obtain ⟨o, _, _, ho, _⟩ := F.ns
    rw [ho]; rfl
  have kw : ∀ z, (h.get? z).isSome = true → (h'.get? z).isSome = true := fun z e => by
    by_cases hz : z = L
    · rw [hz]; exact own
    · rw [hs.2 z hz]; exact e
  refine ⟨⟨S.rep.other (fun b hb o e => oth b o e fun q => S.out (q ▸ hb)) F.keep kw, F, S.out, fun j y e => ?_, S.cells⟩, ⟨⟨[], (List.append_nil _).symm⟩, fun _ => .inl, fun b o e _ n => oth b o e n, fun _ => own⟩⟩
  by_cases hj : i = j
  · subst hj
    rw [hx] at e; cases e
    rw [List.getElem?_set_self hi, hm]
    exact ⟨v, by simp, r⟩
  · rw [List.getElem?_set_ne hj, hm]
    have hne : y ≠ x := fun q => by
      subst q
      have q1 := List.getElem?_eq_some_iff.mp e
      have q2 := List.getElem?_eq_some_iff.mp hx
      exact hj ((List.getElem_inj ok.nodup).mp (q2.2.trans q1.2.symm))
    simp only [if_neg hne]
    exact S.vars j y e
end

theorem T.operate {M : Model} {os : OsState} {A : Around} {h : Heap} {vs : List Value} {t : Sem Value} {Q : Value → Heap → Prop} (k : T M os A t h Q) : T M os A (PySem.operate vs t) h Q := fun s e g o Γ p hΓ hc => by
  rw [Sem.wp_operate]; exact k s e g o Γ p hΓ hc
theorem T.bindName {M : Model} {os : OsState} {A : Around} {h : Heap} {env : Env} {x : Str} {v : Value} {Q : Unit → Heap → Prop} (k : T M os A (storeName env x v) h Q) : T M os A (PySem.bindName env x v) h Q := fun s e g o Γ p hΓ hc => by
  rw [Sem.wp_bindName]; exact k s e g o Γ p hΓ hc
theorem T.release {M : Model} {os : OsState} {A : Around} {h : Heap} {a b : List Value} {Q : Unit → Heap → Prop} (k : Q () h) : T M os A (PySem.release a b) h Q := fun s e g o Γ p hΓ hc => by
  rw [Sem.wp_release]; exact ⟨g, o, e ▸ k⟩

/-- an operation on values -/
noncomputable def Op2 (d : Nat) (t : Value → Value → Sem Value) (sem : AV → AV → AH → Option (AV × AH)) : Prop :=
  ∀ ⦃prog : Program⦄ {w : World} {os : OsState} {h₀ : Heap} {A : Around} {ρ : List Addr} {σ : AH} {h : Heap} {a b c : AV} {va vb : Value} {σ' : AH},
    Base w h₀ → Cond d A → Rep h₀ ρ σ h → h₀.objs.size ≤ h.objs.size → VRel ρ a va → VRel ρ b vb → sem a b σ = some (c, σ') → T (model prog w) os A (t va vb) h (VP h₀ ρ h c σ')
noncomputable def Op1 (d : Nat) (t : Value → Sem Value) (sem : AV → AH → Option (AV × AH)) : Prop :=
  ∀ ⦃prog : Program⦄ {w : World} {os : OsState} {h₀ : Heap} {A : Around} {ρ : List Addr} {σ : AH} {h : Heap} {a c : AV} {va : Value} {σ' : AH},
    Base w h₀ → Cond d A → Rep h₀ ρ σ h → h₀.objs.size ≤ h.objs.size → VRel ρ a va → sem a σ = some (c, σ') → T (model prog w) os A (t va) h (VP h₀ ρ h c σ')
theorem FS.base {fi : FI} {h₀ h : Heap} {ρ : List Addr} {σ : AH} {L : Addr} {m : Str → Option Value} {vars : Vars} (S : FS fi h₀ ρ σ h L m vars) : h₀.objs.size ≤ h.objs.size :=
  Nat.le_of_lt (Nat.lt_of_le_of_lt S.fr.above S.size)
theorem VP.trans {h₀ h h' h'' : Heap} {ρ ρ' : List Addr} {a : AV} {σ' : AH} {v : Value} (x : Ext ρ h ρ' h') (k : VP h₀ ρ' h' a σ' v h'') : VP h₀ ρ h a σ' v h'' := by
  obtain ⟨ρ'', y, R, r⟩ := k
  exact ⟨ρ'', x.trans y, R, r⟩

section
variable {fi : FI} {d : Nat}
noncomputable def eBin (sem : AV → AV → AH → Option (AV × AH)) (f g : Ev) : Ev := fun vars σ => (f vars σ).bind fun p => (g vars p.2).bind fun q => sem p.1 q.1 q.2
noncomputable def eUn (sem : AV → AH → Option (AV × AH)) (f : Ev) : Ev := fun vars σ => (f vars σ).bind fun p => sem p.1 p.2
/-- two values, one behind the other -/
theorem T.two {prog : Program} {w : World} {os : OsState} {h₀ : Heap} {A : Around} {ρ : List Addr} {σ : AH} {h : Heap} {L : Addr} {m : Str → Option Value} {vars : Vars} {f g : Ev} {l r : Expr} {α : Type}
    {k : Value → Value → Sem α} {Q : α → Heap → Prop} {p : Option α} (hf : EvOK fi d f l) (hg : EvOK fi d g r) (B : Base w h₀) (C : Cond d A) (ok : fi.Ok) (S : FS fi h₀ ρ σ h L m vars)
    {a : AV} {σ₁ : AH} {b : AV} {σ₂ : AH} (e1 : f vars σ = some (a, σ₁)) (e2 : g vars σ₁ = some (b, σ₂))
    (q : ∀ va vb ρ₂ h₂, Ext ρ h ρ₂ h₂ → FS fi h₀ ρ₂ σ₂ h₂ L m vars → VRel ρ₂ a va → VRel ρ₂ b vb → T (model prog w) os A (k va vb) h₂ Q) :
    T (model prog w) os A (do let x ← eval l (fi.env L); let y ← PySem.holding [x] (eval r (fi.env L)); k x y) h Q := by
  refine T.bind (T.mono (hf B C ok S e1) fun va h₁ x => ?_)
  obtain ⟨ρ₁, x1, R1, r1⟩ := x
  refine T.bind (T.holding (T.mono (hg B C ok (S.step x1 R1) e2) fun vb h₂ x => ?_))
  obtain ⟨ρ₂, x2, R2, r2⟩ := x
  exact q va vb ρ₂ h₂ (x1.trans x2) ((S.step x1 R1).step x2 R2) (r1.ext x2) r2
theorem EvOK.bin {f g : Ev} {l r : Expr} {op : Operator} {p : Pos} {sem : AV → AV → AH → Option (AV × AH)} (ho : Op2 d (binaryOp op) sem) (hf : EvOK fi d f l) (hg : EvOK fi d g r) : EvOK fi d (eBin sem f g) (.BinOp l op r p) := by
  intro prog w os h₀ A ρ σ h L m vars a σ' B C ok S e
  unfold eBin at e
  obtain ⟨⟨a1, σ₁⟩, e1, e⟩ := Option.bind_eq_some_iff.mp e
  obtain ⟨⟨a2, σ₂⟩, e2, e⟩ := Option.bind_eq_some_iff.mp e
  rw [eval_BinOp]
  refine T.two (k := fun a b => do standAt p; operate [a, b] (binaryOp op a b)) (p := none) hf hg B C ok S e1 e2 fun va vb ρ₂ h₂ x S₂ r1 r2 => ?_
  exact T.bind (T.standAt (T.operate (T.mono (ho B C S₂.rep S₂.base r1 r2 e) fun v h' k => VP.trans x k)))
theorem EvOK.un {f : Ev} {l : Expr} {op : UnaryOp} {p : Pos} {sem : AV → AH → Option (AV × AH)} (ho : Op1 d (unaryOp op) sem) (hf : EvOK fi d f l) : EvOK fi d (eUn sem f) (.UnaryOp op l p) := by
  intro prog w os h₀ A ρ σ h L m vars a σ' B C ok S e
  unfold eUn at e
  obtain ⟨⟨a1, σ₁⟩, e1, e⟩ := Option.bind_eq_some_iff.mp e
  show T _ _ _ (do let v ← eval l (fi.env L); standAt p; PySem.holding [v] (unaryOp op v)) _ _
  refine T.bind (T.mono (hf B C ok S e1) fun va h₁ x => ?_)
  obtain ⟨ρ₁, x1, R1, r1⟩ := x
  exact T.bind (T.standAt (T.holding (T.mono (ho B C R1 (S.step x1 R1).base r1 e) fun v h' k => VP.trans x1 k)))

noncomputable def eVar (i : Nat) : Ev := fun vars σ => (vars[i]?).join.map fun a => (a, σ)
theorem EvOK.var {i : Nat} {x : Str} {p : Pos} (hx : fi.names[i]? = some x) : EvOK fi d (eVar i) (.Name x p) := by
  intro prog w os h₀ A ρ σ h L m vars a σ' B C ok S e
  unfold eVar at e
  obtain ⟨a', e1, e⟩ := Option.map_eq_some_iff.mp e
  cases e
  have z := S.vars i x hx
  rw [e1] at z
  obtain ⟨v, hv, r⟩ := z
  obtain ⟨k1, k2⟩ := ok.loc x (List.mem_of_getElem? hx)
  exact T.any fun s e g o => by
    subst e
    exact nameX_L S.fr hv ⟨g, o, ρ, Ext.refl, S.rep, r⟩ ok.kind k1 k2
/-- a value of the top, by its name -/
noncomputable def StaticG (x : Str) (v : Value) : Prop := (∀ P, nsIn (hK P) mainGlobals x = some (some v)) ∧ (x == ("__debug__" : Str)) = false
noncomputable def StaticB (x : Str) (v : Value) : Prop := (∀ P, nsIn (hK P) mainGlobals x = some none) ∧ bootBuiltins x = some v ∧ x ≠ "__name__" ∧ (x == ("__debug__" : Str)) = false
noncomputable def eSt (v : Value) : Ev := fun _ σ => some (.st v, σ)
theorem EvOK.gbl {x : Str} {v : Value} {p : Pos} (hs : StaticG x v) (hk : fi.scope.names.lookup x = some .globalImplicit) : EvOK fi d (eSt v) (.Name x p) := by
  intro prog w os h₀ A ρ σ h L m vars a σ' B C ok S e
  cases e
  obtain ⟨_, _, _, _, t⟩ := B.top
  exact T.any fun s e g o => by
    subst e
    exact nameX_K S.fr B.X t (hs.1 _) ⟨g, o, ρ, Ext.refl, S.rep, rfl⟩ ok.kind hk hs.2
theorem EvOK.blt {x : Str} {v : Value} {p : Pos} (hs : StaticB x v) (hk : fi.scope.names.lookup x = some .globalImplicit) : EvOK fi d (eSt v) (.Name x p) := by
  intro prog w os h₀ A ρ σ h L m vars a σ' B C ok S e
  cases e
  obtain ⟨_, _, _, _, t⟩ := B.top
  exact T.any fun s e g o => by
    subst e
    exact nameX_B S.fr B.X t (hs.1 _) hs.2.1 hs.2.2.1 ⟨g, o, ρ, Ext.refl, S.rep, rfl⟩ ok.kind hk hs.2.2.2
noncomputable def eConst (a : AV) : Ev := fun _ σ => some (a, σ)
theorem EvOK.int {i : Int} {k : Nat} {p : Pos} : EvOK fi d (eConst (.int i)) (.Constant (.int i) k p) := by
  intro prog w os h₀ A ρ σ h L m vars a σ' B C ok S e
  cases e
  exact T.mkInt fun t => ⟨ρ, Ext.refl, S.rep, t, rfl⟩
theorem EvOK.none {k : Nat} {p : Pos} : EvOK fi d (eConst .none) (.Constant .none k p) := by
  intro prog w os h₀ A ρ σ h L m vars a σ' B C ok S e
  cases e
  exact T.pure ⟨ρ, Ext.refl, S.rep, rfl⟩
theorem EvOK.bool {b : Bool} {k : Nat} {p : Pos} : EvOK fi d (eConst (.bool b)) (.Constant (.bool b) k p) := by
  intro prog w os h₀ A ρ σ h L m vars a σ' B C ok S e
  cases e
  exact T.pure ⟨ρ, Ext.refl, S.rep, rfl⟩
theorem EvOK.str {x : Str} {k : Nat} {p : Pos} : EvOK fi d (eConst (.str x)) (.Constant (.str x) k p) := by
  intro prog w os h₀ A ρ σ h L m vars a σ' B C ok S e
  cases e
  exact T.any fun s e g o => by subst e; exact wpAny_mkText ⟨g, o, ρ, Ext.refl, S.rep, _, rfl⟩
theorem EvOK.bytes {x : List UInt8} {k : Nat} {p : Pos} : EvOK fi d (eConst (.bytes x)) (.Constant (.bytes x) k p) := by
  intro prog w os h₀ A ρ σ h L m vars a σ' B C ok S e
  cases e
  exact T.any fun s e g o => by subst e; exact Constant_bytes ⟨g, o, ρ, Ext.refl, S.rep, _, rfl⟩

/-- conditions -/
noncomputable def bNot (f : Bo) : Bo := fun vars σ => (f vars σ).map fun p => (!p.1, p.2)
theorem BoOK.not {f : Bo} {x : Expr} {p : Pos} (hf : BoOK fi d f x) : BoOK fi d (bNot f) (.UnaryOp .Not x p) := by
  intro prog w os h₀ A ρ σ h L m vars a σ' B C ok S e
  unfold bNot at e
  obtain ⟨⟨b, σ₁⟩, e1, e⟩ := Option.map_eq_some_iff.mp e
  cases e
  show T _ _ _ (do return !(← isTrue x (fi.env L) (eval x (fi.env L)))) _ _
  refine T.bind (T.mono (hf B C ok S e1) fun v h' k => T.pure ?_)
  exact ⟨by rw [k.1], k.2⟩
noncomputable def bAnd (f g : Bo) : Bo := fun vars σ => (f vars σ).bind fun p => if p.1 then g vars p.2 else some (false, p.2)
noncomputable def bOr (f g : Bo) : Bo := fun vars σ => (f vars σ).bind fun p => if p.1 then some (true, p.2) else g vars p.2
theorem BoOK.and {f g : Bo} {x y : Expr} {p : Pos} (hf : BoOK fi d f x) (hg : BoOK fi d g y) : BoOK fi d (bAnd f g) (.BoolOp .And [x, y] p) := by
  intro prog w os h₀ A ρ σ h L m vars a σ' B C ok S e
  unfold bAnd at e
  obtain ⟨⟨b, σ₁⟩, e1, e⟩ := Option.bind_eq_some_iff.mp e
  show T _ _ _ (do
    match BoolOp.And, ← isTrue x (fi.env L) (eval x (fi.env L)) with
    | .And, false => Pure.pure false
    | .Or, true => Pure.pure true
    | _, _ => do
      match BoolOp.And, ← isTrue y (fi.env L) (eval y (fi.env L)) with
      | .And, false => Pure.pure false
      | .Or, true => Pure.pure true
      | _, _ => Pure.pure true) _ _
  refine T.bind (T.mono (hf B C ok S e1) fun v h' k => ?_)
  obtain ⟨rfl, ρ₁, x1, R1⟩ := k
  cases v with
  | false =>
    simp only [Bool.false_eq_true, if_false] at e
    cases e
    exact T.pure ⟨rfl, ρ₁, x1, R1⟩
  | true =>
    simp only [if_true] at e
    refine T.bind (T.mono (hg B C ok (S.step x1 R1) e) fun v h'' k => ?_)
    obtain ⟨rfl, ρ₂, x2, R2⟩ := k
    cases v <;> exact T.pure ⟨rfl, ρ₂, x1.trans x2, R2⟩
theorem BoOK.or {f g : Bo} {x y : Expr} {p : Pos} (hf : BoOK fi d f x) (hg : BoOK fi d g y) : BoOK fi d (bOr f g) (.BoolOp .Or [x, y] p) := by
  intro prog w os h₀ A ρ σ h L m vars a σ' B C ok S e
  unfold bOr at e
  obtain ⟨⟨b, σ₁⟩, e1, e⟩ := Option.bind_eq_some_iff.mp e
  show T _ _ _ (do
    match BoolOp.Or, ← isTrue x (fi.env L) (eval x (fi.env L)) with
    | .And, false => Pure.pure false
    | .Or, true => Pure.pure true
    | _, _ => do
      match BoolOp.Or, ← isTrue y (fi.env L) (eval y (fi.env L)) with
      | .And, false => Pure.pure false
      | .Or, true => Pure.pure true
      | _, _ => Pure.pure false) _ _
  refine T.bind (T.mono (hf B C ok S e1) fun v h' k => ?_)
  obtain ⟨rfl, ρ₁, x1, R1⟩ := k
  cases v with
  | true =>
    simp only [if_true] at e
    cases e
    exact T.pure ⟨rfl, ρ₁, x1, R1⟩
  | false =>
    simp only [Bool.false_eq_true, if_false] at e
    refine T.bind (T.mono (hg B C ok (S.step x1 R1) e) fun v h'' k => ?_)
    obtain ⟨rfl, ρ₂, x2, R2⟩ := k
    cases v <;> exact T.pure ⟨rfl, ρ₂, x1.trans x2, R2⟩

/-- an if-expression -/
noncomputable def eIf (c : Bo) (f g : Ev) : Ev := fun vars σ => (c vars σ).bind fun p => if p.1 then f vars p.2 else g vars p.2
theorem EvOK.ite {c : Bo} {f g : Ev} {t x y : Expr} {p : Pos} (hc : BoOK fi d c t) (hf : EvOK fi d f x) (hg : EvOK fi d g y) : EvOK fi d (eIf c f g) (.IfExp t x y p) := by
  intro prog w os h₀ A ρ σ h L m vars a σ' B C ok S e
  unfold eIf at e
  obtain ⟨⟨b, σ₁⟩, e1, e⟩ := Option.bind_eq_some_iff.mp e
  show T _ _ _ (do if ← isTrue t (fi.env L) (eval t (fi.env L)) then eval x (fi.env L) else eval y (fi.env L)) _ _
  refine T.bind (T.mono (hc B C ok S e1) fun v h' k => ?_)
  obtain ⟨rfl, ρ₁, x1, R1⟩ := k
  cases v with
  | true =>
    simp only [if_true] at e ⊢
    exact T.mono (hf B C ok (S.step x1 R1) e) fun v h'' k => VP.trans x1 k
  | false =>
    simp only [Bool.false_eq_true, if_false] at e ⊢
    exact T.mono (hg B C ok (S.step x1 R1) e) fun v h'' k => VP.trans x1 k
/-- a value as a condition -/
noncomputable def truthA : AV → Option Bool
  | .none => some false
  | .bool b => some b
  | .int i => some (i != 0)
  | _ => none
noncomputable def bVal (f : Ev) : Bo := fun vars σ => (f vars σ).bind fun p => (truthA p.1).map fun b => (b, p.2)
theorem T.truth {prog : Program} {w : World} {os : OsState} {A : Around} {h : Heap} {ρ : List Addr} {a : AV} {b : Bool} {v : Value} {Q : Bool → Heap → Prop} (r : VRel ρ a v) (e : truthA a = some b) (k : Q b h) : T (model prog w) os A (truthy v) h Q := by
  cases a with
  | none => cases e; rw [show v = .none from r]; exact T.pure k
  | bool x => cases e; rw [show v = .bool b from r]; exact T.pure k
  | int i => cases e; obtain ⟨t, rfl⟩ := r; exact T.any fun s e g o => by subst e; exact P.truthy_int ⟨g, o, k⟩
  | _ => cases e
/-- which expressions a condition reads as plain values -/
noncomputable def plainTest : Expr → Bool
  | .UnaryOp .Not _ _ | .BoolOp .. | .IfExp .. | .Compare .. => false
  | _ => true
theorem isTrue_plainTest {x : Expr} {env : Env} {t : Sem Value} (h : plainTest x = true) : isTrue x env t = (do let v ← t; standAt x.pos; PySem.holding [v] (truthy v)) := by
  cases x <;> first | rfl | (cases h; done) | skip
  rename_i op _ _
  cases op <;> first | rfl | (cases h; done)
theorem BoOK.val {f : Ev} {x : Expr} (hx : plainTest x = true) (hf : EvOK fi d f x) : BoOK fi d (bVal f) x := by
  intro prog w os h₀ A ρ σ h L m vars a σ' B C ok S e
  unfold bVal at e
  obtain ⟨⟨b, σ₁⟩, e1, e⟩ := Option.bind_eq_some_iff.mp e
  obtain ⟨c, e2, e⟩ := Option.map_eq_some_iff.mp e
  cases e
  rw [isTrue_plainTest hx]
  refine T.bind (T.mono (hf B C ok S e1) fun v h' k => ?_)
  obtain ⟨ρ₁, x1, R1, r1⟩ := k
  exact T.bind (T.standAt (T.holding (T.truth r1 e2 ⟨rfl, ρ₁, x1, R1⟩)))
/-- one comparison -/
noncomputable def bCmp (sem : AV → AV → AH → Option (Bool × AH)) (f g : Ev) : Bo := fun vars σ => (f vars σ).bind fun p => (g vars p.2).bind fun q => sem p.1 q.1 q.2
noncomputable def asV (sem : AV → AV → AH → Option (Bool × AH)) : AV → AV → AH → Option (AV × AH) := fun a b σ => (sem a b σ).map fun p => (.bool p.1, p.2)
noncomputable def eCmp (sem : AV → AV → AH → Option (Bool × AH)) (f g : Ev) : Ev := eBin (asV sem) f g
theorem BoOK.cmp {f g : Ev} {l r : Expr} {op : CmpOp} {p : Pos} {sem : AV → AV → AH → Option (Bool × AH)} (ho : Op2 d (compareOp op) (asV sem)) (hf : EvOK fi d f l) (hg : EvOK fi d g r) (hm : behindInMarks op r = false) :
    BoOK fi d (bCmp sem f g) (.Compare l [op] [r] p) := by
  intro prog w os h₀ A ρ σ h L m vars a σ' B C ok S e
  unfold bCmp at e
  obtain ⟨⟨a1, σ₁⟩, e1, e⟩ := Option.bind_eq_some_iff.mp e
  obtain ⟨⟨a2, σ₂⟩, e2, e⟩ := Option.bind_eq_some_iff.mp e
  rw [isTrue_Compare1, markedBehindIn_of_false hm]
  refine T.two (k := fun a b => do standAt p; let c ← operate [a, b] (compareOp op a b); PySem.holding [c] (truthy c)) (p := Option.none) hf hg B C ok S e1 e2 fun va vb ρ₂ h₂ x S₂ r1 r2 => ?_
  refine T.bind (T.standAt (T.bind (T.operate (T.mono (ho B C S₂.rep S₂.base r1 r2 (c := .bool a) (σ' := σ') (by unfold asV; rw [e]; rfl)) fun v h' k => ?_))))
  obtain ⟨ρ₃, x3, R3, r3⟩ := k
  rw [show v = .bool a from r3]
  exact T.holding (T.pure ⟨rfl, ρ₃, x.trans x3, R3⟩)
theorem EvOK.cmp {f g : Ev} {l r : Expr} {op : CmpOp} {p : Pos} {sem : AV → AV → AH → Option (Bool × AH)} (ho : Op2 d (compareOp op) (asV sem)) (hf : EvOK fi d f l) (hg : EvOK fi d g r) (hm : behindInMarks op r = false) :
    EvOK fi d (eCmp sem f g) (.Compare l [op] [r] p) := by
  intro prog w os h₀ A ρ σ h L m vars a σ' B C ok S e
  unfold eCmp eBin at e
  obtain ⟨⟨a1, σ₁⟩, e1, e⟩ := Option.bind_eq_some_iff.mp e
  obtain ⟨⟨a2, σ₂⟩, e2, e⟩ := Option.bind_eq_some_iff.mp e
  show T _ _ _ (do let a ← eval l (fi.env L); let b ← PySem.holding [a] (markedBehindIn op r (eval r (fi.env L))); standAt p; operate [a, b] (compareOp op a b)) _ _
  rw [markedBehindIn_of_false hm]
  refine T.two (k := fun a b => do standAt p; operate [a, b] (compareOp op a b)) (p := Option.none) hf hg B C ok S e1 e2 fun va vb ρ₂ h₂ x S₂ r1 r2 => ?_
  exact T.bind (T.standAt (T.operate (T.mono (ho B C S₂.rep S₂.base r1 r2 e) fun v h' k => VP.trans x k)))
end
end Mine
namespace Mine
section
variable {d : Nat}
theorem VP.here {h₀ h h' : Heap} {ρ : List Addr} {a : AV} {σ : AH} {v : Value} (R : Rep h₀ ρ σ h) (e : h' = h) (r : VRel ρ a v) : VP h₀ ρ h a σ v h' := ⟨ρ, e ▸ Ext.refl, e ▸ R, r⟩
/-- an operation that turns no object -/
noncomputable def pure2 (f : AV → AV → Option AV) : AV → AV → AH → Option (AV × AH) := fun a b σ => (f a b).map fun c => (c, σ)
theorem Op2.pure {t : Value → Value → Sem Value} {f : AV → AV → Option AV}
    (k : ∀ {prog : Program} {w : World} {os : OsState} {h₀ : Heap} {A : Around} {ρ : List Addr} {σ : AH} {a b c : AV} {va vb : Value} {s : Shared}, Base w h₀ → Cond d A → Rep h₀ ρ σ s.heap → VRel ρ a va → VRel ρ b vb → f a b = some c →
      wpAny (model prog w) A (t va vb) (fun v s' => s'.gens = s.gens ∧ s'.os = s.os ∧ s'.heap = s.heap ∧ VRel ρ c v) (fun _ _ => False) s) : Op2 d t (pure2 f) := by
  intro prog w os h₀ A ρ σ h a b c va vb σ' B C R _ ra rb e
  unfold pure2 at e
  obtain ⟨c', e1, e⟩ := Option.map_eq_some_iff.mp e
  cases e
  refine T.any fun s e g o => ?_
  subst e
  exact wpAny_mono (k (os := os) B C R ra rb e1) (fun v s' x => ⟨x.1.trans g, x.2.1.trans o, VP.here R x.2.2.1 x.2.2.2⟩) fun _ _ x => x
theorem bits_small {x : Int} (h : x.natAbs < 2 ^ 62) : Builtin.Int.intBits x ≤ 64 := by
  have : Builtin.Int.intBits x ≤ 62 := intBits_le_iff.mpr h
  lia
noncomputable def fAdd : AV → AV → Option AV
  | .int x, .int y => some (.int (x + y))
  | .bytes x, .bytes y => if x.length + y.length ≤ 16777216 then some (.bytes (x ++ y)) else none
  | _, _ => none
theorem opAdd : Op2 d (binaryOp .Add) (pure2 fAdd) := Op2.pure fun {prog w os h₀ A ρ σ a b c va vb s} B C R ra rb e => by
  unfold fAdd at e
  split at e
  · cases e
    obtain ⟨t, rfl⟩ := ra
    obtain ⟨u, rfl⟩ := rb
    exact add_int ⟨rfl, rfl, rfl, _, rfl⟩
  · split at e
    · rename_i hz
      cases e
      obtain ⟨t, rfl⟩ := ra
      obtain ⟨u, rfl⟩ := rb
      exact KBy.add_bytes (by simpa using hz) fun t' k => ⟨rfl, rfl, rfl, t', by simp⟩
    · cases e
  · cases e
noncomputable def fInt2 (f : Int → Int → Option Int) : AV → AV → Option AV
  | .int x, .int y => (f x y).map .int
  | _, _ => none
theorem fInt2_some {f : Int → Int → Option Int} {a b c : AV} {ρ : List Addr} {va vb : Value} (e : fInt2 f a b = some c) (ra : VRel ρ a va) (rb : VRel ρ b vb) : ∃ x y z t u, va = .int x t ∧ vb = .int y u ∧ f x y = some z ∧ c = .int z := by
  unfold fInt2 at e
  split at e
  · rename_i x y
    obtain ⟨z, e1, e⟩ := Option.map_eq_some_iff.mp e
    obtain ⟨t, rfl⟩ := ra
    obtain ⟨u, rfl⟩ := rb
    exact ⟨x, y, z, t, u, rfl, rfl, e1, e.symm⟩
  · cases e
theorem opSub : Op2 d (binaryOp .Sub) (pure2 (fInt2 fun x y => some (x - y))) := Op2.pure fun {prog w os h₀ A ρ σ a b c va vb s} B C R ra rb e => by
  obtain ⟨x, y, z, t, u, rfl, rfl, e1, rfl⟩ := fInt2_some e ra rb
  cases e1
  exact sub_int ⟨rfl, rfl, rfl, _, rfl⟩
theorem opMul : Op2 d (binaryOp .Mult) (pure2 (fInt2 fun x y => if x.natAbs < 2 ^ 62 ∨ y.natAbs < 2 ^ 62 then some (x * y) else none)) := Op2.pure fun {prog w os h₀ A ρ σ a b c va vb s} B C R ra rb e => by
  obtain ⟨x, y, z, t, u, rfl, rfl, e1, rfl⟩ := fInt2_some e ra rb
  split at e1
  · rename_i hz
    cases e1
    exact mul_int ⟨rfl, rfl, rfl, _, rfl⟩ (hz.elim (fun q => IntMulOk.of_left (bits_small q)) fun q => IntMulOk.of_right (bits_small q))
  · cases e1
theorem opFDiv : Op2 d (binaryOp .FloorDiv) (pure2 (fInt2 fun x y => if y ≠ 0 ∧ y.natAbs < 1073741824 then some (x.fdiv y) else none)) := Op2.pure fun {prog w os h₀ A ρ σ a b c va vb s} B C R ra rb e => by
  obtain ⟨x, y, z, t, u, rfl, rfl, e1, rfl⟩ := fInt2_some e ra rb
  split at e1
  · rename_i hz
    cases e1
    exact floordiv_int hz.1 ⟨rfl, rfl, rfl, _, rfl⟩ (.inl (PyProof.noPylong_small hz.2))
  · cases e1
theorem opMod : Op2 d (binaryOp .Mod) (pure2 (fInt2 fun x y => if y ≠ 0 then some (x.fmod y) else none)) := Op2.pure fun {prog w os h₀ A ρ σ a b c va vb s} B C R ra rb e => by
  obtain ⟨x, y, z, t, u, rfl, rfl, e1, rfl⟩ := fInt2_some e ra rb
  split at e1
  · rename_i hz
    cases e1
    exact mod_int' hz ⟨rfl, rfl, rfl, _, rfl⟩
  · cases e1
theorem opPow : Op2 d (binaryOp .Pow) (pure2 (fInt2 fun x y => if x.natAbs < 2 ^ 62 ∧ 0 ≤ y ∧ y ≤ 1000 then some (x ^ y.toNat) else none)) := Op2.pure fun {prog w os h₀ A ρ σ a b c va vb s} B C R ra rb e => by
  obtain ⟨x, y, z, t, u, rfl, rfl, e1, rfl⟩ := fInt2_some e ra rb
  split at e1
  · rename_i hz
    cases e1
    refine pow_int hz.2.1 ?_ ⟨rfl, rfl, rfl, _, rfl⟩
    have h1 := bits_small hz.1
    have h2 := hz.2.2
    have h3 := hz.2.1
    have h4 : (Builtin.Int.intBits x : Int) * y ≤ 64 * 1000 := Int.mul_le_mul (by lia) h2 h3 (by lia)
    lia
  · cases e1
theorem opBitAnd : Op2 d (binaryOp .BitAnd) (pure2 (fInt2 fun x y => some (Builtin.bitAnd x y))) := Op2.pure fun {prog w os h₀ A ρ σ a b c va vb s} B C R ra rb e => by
  obtain ⟨x, y, z, t, u, rfl, rfl, e1, rfl⟩ := fInt2_some e ra rb
  cases e1
  exact and_int ⟨rfl, rfl, rfl, _, rfl⟩
/-- in place -/
theorem opIAdd : Op2 d (inplaceOp .Add) (pure2 (fInt2 fun x y => some (x + y))) := Op2.pure fun {prog w os h₀ A ρ σ a b c va vb s} B C R ra rb e => by
  obtain ⟨x, y, z, t, u, rfl, rfl, e1, rfl⟩ := fInt2_some e ra rb
  cases e1
  exact iadd_int ⟨rfl, rfl, rfl, _, rfl⟩
theorem opISub : Op2 d (inplaceOp .Sub) (pure2 (fInt2 fun x y => some (x - y))) := Op2.pure fun {prog w os h₀ A ρ σ a b c va vb s} B C R ra rb e => by
  obtain ⟨x, y, z, t, u, rfl, rfl, e1, rfl⟩ := fInt2_some e ra rb
  cases e1
  exact isub_int ⟨rfl, rfl, rfl, _, rfl⟩
theorem opIMul : Op2 d (inplaceOp .Mult) (pure2 (fInt2 fun x y => if x.natAbs < 2 ^ 62 ∨ y.natAbs < 2 ^ 62 then some (x * y) else none)) := Op2.pure fun {prog w os h₀ A ρ σ a b c va vb s} B C R ra rb e => by
  obtain ⟨x, y, z, t, u, rfl, rfl, e1, rfl⟩ := fInt2_some e ra rb
  split at e1
  · rename_i hz
    cases e1
    exact imul_int ⟨rfl, rfl, rfl, _, rfl⟩ (hz.elim (fun q => IntMulOk.of_left (bits_small q)) fun q => IntMulOk.of_right (bits_small q))
  · cases e1
theorem opIAnd : Op2 d (inplaceOp .BitAnd) (pure2 (fInt2 fun x y => some (Builtin.bitAnd x y))) := Op2.pure fun {prog w os h₀ A ρ σ a b c va vb s} B C R ra rb e => by
  obtain ⟨x, y, z, t, u, rfl, rfl, e1, rfl⟩ := fInt2_some e ra rb
  cases e1
  exact iand_int ⟨rfl, rfl, rfl, _, rfl⟩
/-- one operand -/
noncomputable def pure1 (f : AV → Option AV) : AV → AH → Option (AV × AH) := fun a σ => (f a).map fun c => (c, σ)
noncomputable def fInt1 (f : Int → Int) : AV → Option AV
  | .int x => some (.int (f x))
  | _ => none
theorem Op1.int {t : Value → Sem Value} {f : Int → Int}
    (k : ∀ {prog : Program} {w : World} {A : Around} {x : Int} {tk : Tok} {s : Shared} {Q : Value → Shared → Prop} {E : Value → Shared → Prop}, Q (.int (f x) s.toks) { s with toks := s.toks + 1 } → wpAny (model prog w) A (t (.int x tk)) Q E s) : Op1 d t (pure1 (fInt1 f)) := by
  intro prog w os h₀ A ρ σ h a c va σ' B C R _ ra e
  unfold pure1 at e
  obtain ⟨c', e1, e⟩ := Option.map_eq_some_iff.mp e
  cases e
  unfold fInt1 at e1
  split at e1
  · cases e1
    obtain ⟨tk, rfl⟩ := ra
    refine T.any fun s e g o => ?_
    subst e
    exact k ⟨g, o, VP.here R rfl ⟨_, rfl⟩⟩
  · cases e1
theorem opInv : Op1 d (unaryOp .Invert) (pure1 (fInt1 Builtin.bitNot)) := Op1.int fun q => invert_int q
theorem opNeg : Op1 d (unaryOp .USub) (pure1 (fInt1 fun x => -x)) := Op1.int fun q => neg_int q
end
end Mine
namespace Mine
section
variable {d : Nat}
theorem Op2.cmp {op : CmpOp} {f : AV → AV → Option Bool}
    (k : ∀ {prog : Program} {w : World} {os : OsState} {h₀ : Heap} {A : Around} {ρ : List Addr} {σ : AH} {a b : AV} {c : Bool} {va vb : Value} {s : Shared}, Base w h₀ → Cond d A → Rep h₀ ρ σ s.heap → VRel ρ a va → VRel ρ b vb → f a b = some c →
      wpAny (model prog w) A (compareOp op va vb) (fun v s' => s' = s ∧ v = .bool c) (fun _ _ => False) s) : Op2 d (compareOp op) (asV fun a b σ => (f a b).map fun c => (c, σ)) := by
  intro prog w os h₀ A ρ σ h a b c va vb σ' B C R _ ra rb e
  unfold asV at e
  obtain ⟨⟨c', σ₁⟩, e1, e⟩ := Option.map_eq_some_iff.mp e
  obtain ⟨c'', e2, e1⟩ := Option.map_eq_some_iff.mp e1
  cases e1
  cases e
  refine T.any fun s e g o => ?_
  subst e
  refine wpAny_mono (k (os := os) B C R ra rb e2) (fun v s' x => ?_) fun _ _ x => x
  obtain ⟨rfl, rfl⟩ := x
  exact ⟨g, o, VP.here R rfl rfl⟩
noncomputable def cInt (f : Int → Int → Bool) : AV → AV → Option Bool
  | .int x, .int y => some (f x y)
  | _, _ => none
theorem cInt_some {f : Int → Int → Bool} {a b : AV} {c : Bool} {ρ : List Addr} {va vb : Value} (e : cInt f a b = some c) (ra : VRel ρ a va) (rb : VRel ρ b vb) : ∃ x y t u, va = .int x t ∧ vb = .int y u ∧ c = f x y := by
  unfold cInt at e
  split at e
  · cases e
    obtain ⟨t, rfl⟩ := ra
    obtain ⟨u, rfl⟩ := rb
    exact ⟨_, _, t, u, rfl, rfl, rfl⟩
  · cases e
noncomputable def sCmp (f : AV → AV → Option Bool) : AV → AV → AH → Option (Bool × AH) := fun a b σ => (f a b).map fun c => (c, σ)
theorem opLt : Op2 d (compareOp .Lt) (asV (sCmp (cInt fun x y => decide (x < y)))) := Op2.cmp fun {prog w os h₀ A ρ σ a b c va vb s} B C R ra rb e => by
  obtain ⟨x, y, t, u, rfl, rfl, rfl⟩ := cInt_some e ra rb
  exact lt_int ⟨rfl, rfl⟩
theorem opLe : Op2 d (compareOp .LtE) (asV (sCmp (cInt fun x y => decide (x ≤ y)))) := Op2.cmp fun {prog w os h₀ A ρ σ a b c va vb s} B C R ra rb e => by
  obtain ⟨x, y, t, u, rfl, rfl, rfl⟩ := cInt_some e ra rb
  exact le_int ⟨rfl, rfl⟩
theorem opGt : Op2 d (compareOp .Gt) (asV (sCmp (cInt fun x y => decide (y < x)))) := Op2.cmp fun {prog w os h₀ A ρ σ a b c va vb s} B C R ra rb e => by
  obtain ⟨x, y, t, u, rfl, rfl, rfl⟩ := cInt_some e ra rb
  exact gt_int ⟨rfl, rfl⟩
theorem opGe : Op2 d (compareOp .GtE) (asV (sCmp (cInt fun x y => decide (y ≤ x)))) := Op2.cmp fun {prog w os h₀ A ρ σ a b c va vb s} B C R ra rb e => by
  obtain ⟨x, y, t, u, rfl, rfl, rfl⟩ := cInt_some e ra rb
  exact ge_int ⟨rfl, rfl⟩
/-- is None, is not None -/
noncomputable def cIs : AV → AV → Option Bool
  | .none, .none => some true
  | .int _, .none | .bool _, .none | .str _, .none | .bytes _, .none | .obj _, .none | .st (.ref _), .none => some false
  | _, _ => none
theorem cIs_some {a b : AV} {c : Bool} {ρ : List Addr} {va vb : Value} (e : cIs a b = some c) (ra : VRel ρ a va) (rb : VRel ρ b vb) : plainIs va vb = true ∧ (va == vb) = c := by
  unfold cIs at e
  split at e <;> cases e <;> rw [show vb = .none from rb]
  · rw [show va = .none from ra]; exact ⟨rfl, rfl⟩
  · obtain ⟨t, rfl⟩ := ra; exact ⟨rfl, rfl⟩
  · rw [show va = .bool _ from ra]; exact ⟨rfl, rfl⟩
  · obtain ⟨t, rfl⟩ := ra; exact ⟨rfl, rfl⟩
  · obtain ⟨t, rfl⟩ := ra; exact ⟨rfl, rfl⟩
  · obtain ⟨x, _, rfl⟩ := ra; exact ⟨rfl, rfl⟩
  · rw [show va = .ref _ from ra]; exact ⟨rfl, rfl⟩
theorem opIs : Op2 d (compareOp .Is) (asV (sCmp cIs)) := Op2.cmp fun {prog w os h₀ A ρ σ a b c va vb s} B C R ra rb e => by
  obtain ⟨h1, rfl⟩ := cIs_some e ra rb
  exact wpAny_is_plain h1 ⟨rfl, rfl⟩
theorem opIsNot : Op2 d (compareOp .IsNot) (asV (sCmp fun a b => (cIs a b).map (!·))) := Op2.cmp fun {prog w os h₀ A ρ σ a b c va vb s} B C R ra rb e => by
  obtain ⟨c', e1, rfl⟩ := Option.map_eq_some_iff.mp e
  obtain ⟨h1, rfl⟩ := cIs_some e1 ra rb
  exact wpAny_isNot_plain h1 ⟨rfl, rfl⟩
/-- == -/
noncomputable def cEq : AV → AV → AH → Option Bool
  | .int x, .int y, _ => some (x == y)
  | .bytes x, .bytes y, _ => some (x == y)
  | .obj i, .bytes y, σ => match σ[i]? with
    | some (.ba x) => some (x == y)
    | _ => none
  | _, _, _ => none
namespace BF
set_option maxRecDepth 100000
theorem slot_eq : Slot "bytearray" "__eq__" "bytearray.__eq__" :=
  .of (owner := "bytearray") (n := "__eq__") (by rw [typeLookup_type, builtinLookup_eq_fast]; kernel_rfl) (by decide +kernel) (by decide +kernel) (by decide +kernel)
    (by first | exact .inl (by decide +kernel) | exact .inr (by decide +kernel)) (by rw [isSubtype_type]; kernel_rfl)
theorem entry_eq : entryFor table "bytearray.__eq__" = some Builtin.«bytearray.__eq__» := entryFor_of_tree (by kernel_rfl)
theorem args_eq (a b : Value) : argsOk "bytearray.__eq__" ⟨[a, b], []⟩ := by unfold argsOk; kernel_rfl
theorem sub_bytes_ba : isSubtype (.type "bytes") (.type "bytearray") = pure false := by rw [isSubtype_type]; kernel_rfl
end BF
/-- a built-in's method, by its slot -/
theorem T.slotCall {prog : Program} {w : World} {A : Around} {os : OsState} {h : Heap} {Ty id : String} {name : Str} {a : Addr} {o : Obj} {args : List Value} {b : Builtin} {Q : Value → Heap → Prop} (sl : Slot Ty name id) (hb : entryFor table id = some b) (hh : Builtin.Bytes.decodersThatHold.contains id = false)
    (ho : h.get? a = some o) (hc : o.cls = .type Ty) (hok : argsOk id ⟨.ref a :: args, []⟩)
    (k : T (model prog w) os A.in1 (b ⟨.ref a :: args, []⟩) h (FinT (model prog w) os A fun f h' => ∃ v, f = .ret v ∧ Q v h')) : T (model prog w) os A (PySem.call (.builtin id) (.ref a :: args)) h Q :=
  T.call (CT.callBuiltin sl.plain hb hh (T.any fun s e g o' => sl.check _ _ _ _ _ _ _ _ (show s.TypeIs (.ref a) Ty from ⟨o, by rw [e]; exact ho, hc⟩) hok ⟨g, o', e⟩) k)
theorem T.typeOfRef {prog : Program} {w : World} {A : Around} {os : OsState} {h : Heap} {a : Addr} {o : Obj} {Q : Value → Heap → Prop} (ho : h.get? a = some o) (k : Q o.cls h) : T (model prog w) os A (typeOf (.ref a)) h Q :=
  T.any fun s e g o' => by subst e; exact wpAny_bind (wpAny_loadPart ho (wpAny_pure ⟨g, o', k⟩))
theorem T.bindIte {α : Type} {M : Model} {A : Around} {os : OsState} {h : Heap} {c : Prop} [Decidable c] {x y : Sem α} {Q : α → Heap → Prop} (h1 : T M os A x h Q) (h2 : T M os A y h Q) : T M os A (if c then x else y) h Q := by
  split
  · exact h1
  · exact h2
theorem T.eqBa {prog : Program} {w : World} {A : Around} {os : OsState} {h : Heap} {a : Addr} {x y : Array UInt8} {t : Tok} {Q : Value → Heap → Prop} (C : Cond d A) (ho : h.get? a = some (baObj x)) (k : Q (.bool (x.toList == y.toList)) h) :
    T (model prog w) os A (compareOp .Eq (.ref a) (.bytes y t)) h Q := by
  show T _ _ _ (richCompare .Eq (.ref a) (.bytes y t)) _ _
  have key : T (model prog w) os A (PySem.call (.builtin "bytearray.__eq__") [.ref a, .bytes y t]) h fun v h' => h' = h ∧ v = .bool (x.toList == y.toList) := by
    refine T.slotCall BF.slot_eq BF.entry_eq (by decide +kernel) ho rfl (BF.args_eq _ _) ?_
    show T _ _ _ (Builtin.Bytes.buffer? "bytearray.__eq__" (.ref a) >>= _) _ _
    refine T.bind (T.buffer ho ?_)
    show T _ _ _ (Builtin.Bytes.bufferQuiet? "bytearray.__eq__" (.bytes y t) >>= _) _ _
    refine T.bind (T.eq KBy.quiet_eq ?_)
    refine T.pure ⟨_, rfl, rfl, ?_⟩
    show Value.bool (Builtin.Bytes.order x.toList y.toList == .eq) = _
    rw [order_eq]
  unfold richCompare
  refine T.holding (T.bind (T.any fun s e g o => wpAny_cRoomFor (by have := C.units; unfold cLine; lia) ⟨g, o, ?_⟩))
  subst e
  refine T.bind (T.typeOfRef ho ?_)
  refine T.bind (T.eq (a := .type "bytes") rfl ?_)
  refine T.ite_true (show (Value.type "bytearray" != Value.type "bytes") = true by decide) ?_
  refine T.bind (T.eq BF.sub_bytes_ba ?_)
  refine T.ite_false Bool.false_ne_true ?_
  refine T.bind ?_
  unfold tryCompare callSpecialIfBound? bindSpecialIfBound?
  refine T.bind ?_
  refine T.holding (T.bind (T.bind (T.specialOf ho rfl BF.slot_eq.lookup ?_)))
  refine T.bind (T.any fun s' e g o => wpAny_askSetting ⟨g, o, ?_⟩)
  rw [e]
  refine T.bindIte (T.bind (T.eq (BF.slot_eq.bind _) (T.pure ?_))) (T.tryCatch (T.bind (T.eq (BF.slot_eq.bind _) (T.pure ?_))))
  all_goals
    refine T.bind (T.mono key fun v h' z => ?_)
    obtain ⟨rfl, rfl⟩ := z
    exact T.pure (T.pure (T.pure k))
noncomputable def sEq : AV → AV → AH → Option (Bool × AH) := fun a b σ => (cEq a b σ).map fun c => (c, σ)
theorem opEq : Op2 d (compareOp .Eq) (asV sEq) := by
  intro prog w os h₀ A ρ σ h a b c va vb σ' B C R hz ra rb e
  unfold asV sEq at e
  obtain ⟨⟨c', σ₁⟩, e1, e⟩ := Option.map_eq_some_iff.mp e
  obtain ⟨c'', e2, e1⟩ := Option.map_eq_some_iff.mp e1
  cases e1
  cases e
  unfold cEq at e2
  split at e2
  · cases e2
    obtain ⟨t, rfl⟩ := ra
    obtain ⟨u, rfl⟩ := rb
    exact T.any fun s e g o => by subst e; exact eq_int ⟨g, o, VP.here R rfl rfl⟩
  · cases e2
    obtain ⟨t, rfl⟩ := ra
    obtain ⟨u, rfl⟩ := rb
    exact T.any fun s e g o => by subst e; exact eq_bytes ⟨g, o, VP.here R rfl rfl⟩
  · rename_i i y σ'
    split at e2
    · rename_i x q
      cases e2
      obtain ⟨a, ha, rfl⟩ := ra
      obtain ⟨u, rfl⟩ := rb
      obtain ⟨o, ho, r⟩ := R.get q ha
      rw [show o = _ from r] at ho
      exact T.eqBa C ho (VP.here R rfl rfl)
    · cases e2
  · cases e2
/-- != -/
noncomputable def intsOf : List AV → Option (List Int)
  | [] => some []
  | .int i :: r => (intsOf r).map (i :: ·)
  | _ :: _ => none
noncomputable def cNe : AV → AV → AH → Option Bool
  | .int x, .int y, _ => some (x != y)
  | .none, .none, _ => some false
  | .bool x, .bool y, _ => some (x != y)
  | .bytes x, .bytes y, _ => some (x != y)
  | .obj i, .obj j, σ => match σ[i]?, σ[j]? with
    | some (.list _ xs), some (.list _ ys) => match intsOf xs, intsOf ys with
      | some x, some y => if x.length = y.length then some (x != y) else none
      | _, _ => none
    | some (.tup xs), some (.tup ys) => match intsOf xs, intsOf ys with
      | some x, some y => if x.length = y.length then some (x != y) else none
      | _, _ => none
    | _, _ => none
  | _, _, _ => none
theorem ints_rel {ρ : List Addr} : ∀ {xs : List AV} {vs : List Value} {is : List Int}, VRels ρ xs vs → intsOf xs = some is → IntsAre vs is
  | [], [], _, _, e => by cases e; exact IntsAre.nil
  | .int i :: xs, v :: vs, _, h, e => by
    unfold intsOf at e
    obtain ⟨r, e1, e⟩ := Option.map_eq_some_iff.mp e
    cases e
    obtain ⟨t, rfl⟩ := h.1
    exact IntsAre.cons _ _ (ints_rel h.2 e1)
  | .none :: _, _, _, _, e | .bool _ :: _, _, _, _, e | .str _ :: _, _, _, _, e | .bytes _ :: _, _, _, _, e | .obj _ :: _, _, _, _, e | .st _ :: _, _, _, _, e => by cases e
theorem all_get (is js : List Int) (hl : is.length = js.length) : ((List.range is.length).all fun j => is[j]? == js[j]?) = (is == js) := by
  rw [Bool.eq_iff_iff, List.all_eq_true, beq_iff_eq]
  constructor
  · intro k
    apply List.ext_getElem? 
    intro j
    by_cases hj : j < is.length
    · simpa using k j (List.mem_range.mpr hj)
    · rw [List.getElem?_eq_none (by lia), List.getElem?_eq_none (by lia)]
  · intro e j _
    rw [e]; simp
theorem eq_items {A : Around} {s : Shared} {vs ws : List Value} {is js : List Int} (hi : IntsAre vs is) (hj : IntsAre ws js) (j : Nat) (h1 : j < vs.toArray.size) (h2 : j < ws.toArray.size) :
    SeqAt.EqAt A s vs.toArray[j] ws.toArray[j] (is[j]? == js[j]?) := by
  obtain ⟨n, t, e1, e2⟩ := IntsAre.at hi j vs.toArray[j] (by simp at h1 ⊢)
  obtain ⟨n', t', e3, e4⟩ := IntsAre.at hj j ws.toArray[j] (by simp at h2 ⊢)
  rw [e1, e3, e2, e4]
  have := SeqAt.EqAt.int_int (A := A) (s := s) n t n' t'
  simpa using this
theorem opNe : Op2 d (compareOp .NotEq) (asV fun a b σ => (cNe a b σ).map fun c => (c, σ)) := by
  intro prog w os h₀ A ρ σ h a b c va vb σ' B C R hz ra rb e
  unfold asV at e
  obtain ⟨⟨c', σ₁⟩, e1, e⟩ := Option.map_eq_some_iff.mp e
  obtain ⟨c'', e2, e1⟩ := Option.map_eq_some_iff.mp e1
  cases e1
  cases e
  have hu : A.units < cLine := by have := C.units; unfold cLine; lia
  unfold cNe at e2
  split at e2
  · cases e2
    obtain ⟨t, rfl⟩ := ra
    obtain ⟨u, rfl⟩ := rb
    exact T.any fun s e g o => by subst e; exact ne_int ⟨g, o, VP.here R rfl rfl⟩
  · cases e2
    rw [show va = .none from ra, show vb = .none from rb]
    exact T.any fun s e g o => by subst e; exact EqNone.ne_none_none ⟨g, o, VP.here R rfl rfl⟩
  · cases e2
    rw [show va = .bool _ from ra, show vb = .bool _ from rb]
    exact T.any fun s e g o => by subst e; exact ne_bool ⟨g, o, VP.here R rfl rfl⟩
  · cases e2
    obtain ⟨t, rfl⟩ := ra
    obtain ⟨u, rfl⟩ := rb
    exact T.any fun s e g o => by subst e; exact ne_bytes ⟨g, o, VP.here R rfl rfl⟩
  · rename_i i j
    obtain ⟨x, hx, rfl⟩ := ra
    obtain ⟨y, hy, rfl⟩ := rb
    split at e2
    · rename_i xs ys qx qy
      split at e2
      · rename_i is js ei ej
        split at e2
        · rename_i hl
          cases e2
          obtain ⟨ox, hox, cx, _, nx, vs, dx, rx⟩ := R.get qx hx
          obtain ⟨oy, hoy, cy, _, ny, ws, dy, ry⟩ := R.get qy hy
          have ix := ints_rel rx ei
          have iy := ints_rel ry ej
          have lx := ix.length
          have ly := iy.length
          refine T.any fun s e g o => ?_
          subst e
          refine EqBoolInt.of_rcne (SeqAt.RcNeAt.lists (e := fun j => is[j]? == js[j]?) ⟨ox, hox, cx, nx, dx⟩ ⟨oy, hoy, cy, ny, dy⟩ (by simp; lia) hu fun j h1 h2 => eq_items ix iy j h1 h2) ⟨g, o, VP.here R rfl ?_⟩
          show Value.bool _ = Value.bool _
          rw [show vs.toArray.size = is.length by simp; lia, all_get _ _ hl]
          rfl
        · cases e2
      · cases e2
    · rename_i xs ys qx qy
      split at e2
      · rename_i is js ei ej
        split at e2
        · rename_i hl
          cases e2
          obtain ⟨ox, hox, cx, nx, vs, dx, rx⟩ := R.get qx hx
          obtain ⟨oy, hoy, cy, ny, ws, dy, ry⟩ := R.get qy hy
          have ix := ints_rel rx ei
          have iy := ints_rel ry ej
          have lx := ix.length
          have ly := iy.length
          refine T.any fun s e g o => ?_
          subst e
          refine EqBoolInt.of_rcne (SeqAt.RcNeAt.tuples (e := fun j => is[j]? == js[j]?) ⟨ox, hox, cx, nx, dx⟩ ⟨oy, hoy, cy, ny, dy⟩ hu fun j h1 h2 => eq_items ix iy j h1 h2) ⟨g, o, VP.here R rfl ?_⟩
          show Value.bool _ = Value.bool _
          have e1 : vs.toArray.size = is.length := by simp; lia
          have e2 : ws.toArray.size = is.length := by simp; lia
          rw [e1, e2, Nat.min_self, all_get _ _ hl, beq_self_eq_true, Bool.and_true]
          rfl
        · cases e2
      · cases e2
    · cases e2
  · cases e2
end
end Mine
namespace Mine
section
variable {fi : FI} {d : Nat}
noncomputable def xNil : Ex := fun vars σ => some (.next, vars, σ)
noncomputable def xSeq (f g : Ex) : Ex := fun vars σ => (f vars σ).bind fun p => match p.1 with
  | .next => g p.2.1 p.2.2
  | fl => some (fl, p.2.1, p.2.2)
theorem XP.here {h₀ h h' : Heap} {ρ : List Addr} {σ : AH} {L : Addr} {m : Str → Option Value} {vars : Vars} {a : Fl} {f : Flow} (S : FS fi h₀ ρ σ h L m vars) (e : h' = h) (r : FlRel ρ a f) : XP fi h₀ ρ h L a vars σ f h' :=
  ⟨ρ, m, e ▸ ExtL.refl, e ▸ S, r⟩
theorem XP.trans {h₀ h h' h'' : Heap} {ρ ρ' : List Addr} {σ' : AH} {L : Addr} {vars' : Vars} {a : Fl} {f : Flow} (x : ExtL L ρ h ρ' h') (k : XP fi h₀ ρ' h' L a vars' σ' f h'') : XP fi h₀ ρ h L a vars' σ' f h'' := by
  obtain ⟨ρ'', m', y, S, r⟩ := k
  exact ⟨ρ'', m', x.trans y, S, r⟩
theorem ExsOK.nil : ExsOK fi d xNil [] := by
  intro prog w os h₀ A ρ σ h L m vars vars' a σ' B C ok S e
  cases e
  exact T.pure (XP.here S rfl rfl)
theorem ExsOK.cons {f g : Ex} {s : Stmt} {ss : List Stmt} (hf : ExOK fi d f s) (hg : ExsOK fi d g ss) : ExsOK fi d (xSeq f g) (s :: ss) := by
  intro prog w os h₀ A ρ σ h L m vars vars' a σ' B C ok S e
  unfold xSeq at e
  obtain ⟨⟨fl, v1, σ₁⟩, e1, e⟩ := Option.bind_eq_some_iff.mp e
  rw [execs_cons]
  refine T.bind (T.mono (hf B C ok S e1) fun f h' k => ?_)
  obtain ⟨ρ₁, m₁, x1, S1, r1⟩ := k
  cases fl with
  | next =>
    rw [show f = .next from r1]
    exact T.mono (hg B C ok S1 e) fun f h'' k => XP.trans x1 k
  | ret v =>
    cases e
    obtain ⟨u, rfl, r⟩ := r1
    exact T.pure ⟨ρ₁, m₁, x1, S1, u, rfl, r⟩
  | cont =>
    cases e
    rw [show f = .cont from r1]
    exact T.pure ⟨ρ₁, m₁, x1, S1, rfl⟩
  | brk =>
    cases e
    rw [show f = .brk from r1]
    exact T.pure ⟨ρ₁, m₁, x1, S1, rfl⟩
/-- a statement that is not come upon -/
noncomputable def xNo : Ex := fun _ _ => none
theorem ExOK.no {s : Stmt} : ExOK fi d xNo s := by
  intro prog w os h₀ A ρ σ h L m vars vars' a σ' B C ok S e
  cases e
theorem ExsOK.no {s : List Stmt} : ExsOK fi d xNo s := by
  intro prog w os h₀ A ρ σ h L m vars vars' a σ' B C ok S e
  cases e
noncomputable def eNo : Ev := fun _ _ => none
theorem EvOK.no {x : Expr} : EvOK fi d eNo x := by
  intro prog w os h₀ A ρ σ h L m vars a σ' B C ok S e
  cases e
noncomputable def bNo : Bo := fun _ _ => none
theorem BoOK.no {x : Expr} : BoOK fi d bNo x := by
  intro prog w os h₀ A ρ σ h L m vars a σ' B C ok S e
  cases e
noncomputable def noComp : Expr → Bool
  | .ListComp .. | .SetComp .. | .DictComp .. => false
  | _ => true
theorem swaps_no {v : Expr} {t : Option Expr} {l : Nat} {env : Env} (h : noComp v = true) : swapsWith v t l env = pure false := by
  cases v <;> first | rfl | (cases h; done)
noncomputable def notObj : AV → Bool
  | .obj _ | .st _ => false
  | _ => true
theorem notRef_of {ρ : List Addr} {a : AV} {v : Value} (h : notObj a = true) (r : VRel ρ a v) : ∀ b, v ≠ .ref b := by
  intro b e
  subst e
  cases a with
  | none => cases r
  | bool _ => cases r
  | int _ => obtain ⟨_, q⟩ := r; cases q
  | str _ => obtain ⟨_, q⟩ := r; cases q
  | bytes _ => obtain ⟨_, q⟩ := r; cases q
  | obj _ => cases h
  | st _ => cases h
noncomputable def xExpr (f : Ev) : Ex := fun vars σ => (f vars σ).bind fun p => if notObj p.1 then some (.next, vars, p.2) else none
theorem ExOK.expr {f : Ev} {x : Expr} {p : Pos} (hc : noComp x = true) (hf : EvOK fi d f x) : ExOK fi d (xExpr f) (.Expr x p) := by
  intro prog w os h₀ A ρ σ h L m vars vars' a σ' B C ok S e
  unfold xExpr at e
  obtain ⟨⟨v1, σ₁⟩, e1, e⟩ := Option.bind_eq_some_iff.mp e
  split at e
  · rename_i hn
    cases e
    rw [exec_Expr _ _ _ (show interactive (fi.env L) = false by show (fi.scope.kind == ScopeKind.module && _) = false; rw [ok.kind]; rfl) (swaps_no hc)]
    refine T.bind (T.standAt (T.bind (T.mono (hf B C ok S e1) fun v h' k => ?_)))
    obtain ⟨ρ₁, x1, R1, r1⟩ := k
    rw [dropValue_plain (notRef_of hn r1)]
    exact T.pure ⟨ρ₁, m, (x1.toL S.out), S.step x1 R1, rfl⟩
  · cases e
noncomputable def xRet (f : Ev) : Ex := fun vars σ => (f vars σ).map fun p => (.ret p.1, vars, p.2)
theorem ExOK.ret {f : Ev} {x : Expr} {p : Pos} (hf : EvOK fi d f x) : ExOK fi d (xRet f) (.Return (some x) p) := by
  intro prog w os h₀ A ρ σ h L m vars vars' a σ' B C ok S e
  unfold xRet at e
  obtain ⟨⟨v1, σ₁⟩, e1, e⟩ := Option.map_eq_some_iff.mp e
  cases e
  rw [exec_Return_some]
  refine T.bind (T.standAt (T.bind (T.mono (hf B C ok S e1) fun v h' k => ?_)))
  obtain ⟨ρ₁, x1, R1, r1⟩ := k
  exact T.pure ⟨ρ₁, m, (x1.toL S.out), S.step x1 R1, v, rfl, r1⟩
theorem ExOK.retNone {p : Pos} : ExOK fi d (xRet (eConst .none)) (.Return none p) := by
  intro prog w os h₀ A ρ σ h L m vars vars' a σ' B C ok S e
  cases e
  exact T.any fun s e g o => wpAny_Return_none ⟨g, o, XP.here S e ⟨_, rfl, rfl⟩⟩
noncomputable def xCont : Ex := fun vars σ => some (.cont, vars, σ)
theorem ExOK.cont {p : Pos} : ExOK fi d xCont (.Continue p) := by
  intro prog w os h₀ A ρ σ h L m vars vars' a σ' B C ok S e
  cases e
  exact T.bind (T.standAt (T.pure (XP.here S rfl rfl)))
noncomputable def xIf (c : Bo) (f g : Ex) : Ex := fun vars σ => (c vars σ).bind fun p => if p.1 then f vars p.2 else g vars p.2
theorem ExOK.ite {c : Bo} {f g : Ex} {t : Expr} {x y : List Stmt} {p : Pos} (hc : BoOK fi d c t) (hf : ExsOK fi d f x) (hg : ExsOK fi d g y) : ExOK fi d (xIf c f g) (.If t x y p) := by
  intro prog w os h₀ A ρ σ h L m vars vars' a σ' B C ok S e
  unfold xIf at e
  obtain ⟨⟨b, σ₁⟩, e1, e⟩ := Option.bind_eq_some_iff.mp e
  rw [exec_If]
  refine T.bind (T.standAt (T.bind (T.mono (hc B C ok S e1) fun v h' k => ?_)))
  obtain ⟨rfl, ρ₁, x1, R1⟩ := k
  cases v with
  | true =>
    simp only [if_true] at e ⊢
    exact T.mono (hf B C ok (S.step x1 R1) e) fun v h'' k => XP.trans (x1.toL S.out) k
  | false =>
    simp only [Bool.false_eq_true, if_false] at e ⊢
    exact T.mono (hg B C ok (S.step x1 R1) e) fun v h'' k => XP.trans (x1.toL S.out) k

/-- a local stored, in the logic -/
theorem T.store {prog : Program} {w : World} {os : OsState} {h₀ : Heap} {A : Around} {ρ : List Addr} {σ : AH} {h : Heap} {L : Addr} {m : Str → Option Value} {vars : Vars} {i : Nat} {x : Str} {a : AV} {v : Value} {Q : Unit → Heap → Prop}
    (ok : fi.Ok) (S : FS fi h₀ ρ σ h L m vars) (hx : fi.names[i]? = some x) (hi : i < vars.length) (r : VRel ρ a v)
    (k : ∀ h' m', FS fi h₀ ρ σ h' L m' (vars.set i (some a)) → ExtL L ρ h ρ h' → Q () h') : T (model prog w) os A (storeName (fi.env L) x v) h Q := by
  obtain ⟨k1, k2⟩ := ok.loc x (List.mem_of_getElem? hx)
  refine T.any fun s e g o => ?_
  subst e
  refine wpAny_storeName_local k1 S.fr.ns (fun h' hn hs => ?_) (by show (fi.scope.kind == .class || (fi.scope.kind == .module && L != mainGlobals)) = false; rw [ok.kind]; rfl)
  obtain ⟨S', x'⟩ := S.store ok hx hi r (S.fr.set hn hs) rfl hs
  exact ⟨g, o, k h' _ S' x'⟩
noncomputable def setV (i : Nat) (a : AV) (vars : Vars) : Option Vars := if i < vars.length then some (vars.set i (some a)) else none
noncomputable def xAsg (i : Nat) (f : Ev) : Ex := fun vars σ => (f vars σ).bind fun p => (setV i p.1 vars).map fun v => (.next, v, p.2)
theorem ExOK.asg {i : Nat} {f : Ev} {y : Str} {x : Expr} {p q : Pos} (hy : fi.names[i]? = some y) (hc : noComp x = true) (hf : EvOK fi d f x) : ExOK fi d (xAsg i f) (.Assign [.Name y p] x q) := by
  intro prog w os h₀ A ρ σ h L m vars vars' a σ' B C ok S e
  unfold xAsg at e
  obtain ⟨⟨v1, σ₁⟩, e1, e⟩ := Option.bind_eq_some_iff.mp e
  obtain ⟨v2, e2, e⟩ := Option.map_eq_some_iff.mp e
  unfold setV at e2
  split at e2
  · rename_i hi
    cases e2
    cases e
    rw [exec_Assign_Name _ _ _ _ _ (swaps_no hc)]
    refine T.bind (T.standAt (T.bind (T.mono (hf B C ok S e1) fun v h' k => ?_)))
    obtain ⟨ρ₁, x1, R1, r1⟩ := k
    refine T.bind (T.standAt (T.bind (T.bindName (T.store ok (S.step x1 R1) hy hi r1 fun h'' m' S' x' => ?_))))
    exact T.pure ⟨ρ₁, m', (x1.toL S.out).trans x', S', rfl⟩
  · cases e2
/-- x op= e -/
noncomputable def xAug (i : Nat) (sem : AV → AV → AH → Option (AV × AH)) (f : Ev) : Ex := fun vars σ => (vars[i]?).join.bind fun a => (f vars σ).bind fun p => (sem a p.1 p.2).bind fun q => (setV i q.1 vars).map fun v => (.next, v, q.2)
theorem ExOK.aug {i : Nat} {f : Ev} {y : Str} {x : Expr} {p q : Pos} {op : Operator} {sem : AV → AV → AH → Option (AV × AH)} (hy : fi.names[i]? = some y) (ho : Op2 d (inplaceOp op) sem) (hf : EvOK fi d f x) : ExOK fi d (xAug i sem f) (.AugAssign (.Name y p) op x q) := by
  intro prog w os h₀ A ρ σ h L m vars vars' a σ' B C ok S e
  unfold xAug at e
  obtain ⟨a0, e0, e⟩ := Option.bind_eq_some_iff.mp e
  obtain ⟨⟨v1, σ₁⟩, e1, e⟩ := Option.bind_eq_some_iff.mp e
  obtain ⟨⟨v2, σ₂⟩, e2, e⟩ := Option.bind_eq_some_iff.mp e
  obtain ⟨v3, e3, e⟩ := Option.map_eq_some_iff.mp e
  unfold setV at e3
  split at e3
  · rename_i hi
    cases e3
    cases e
    obtain ⟨k1, k2⟩ := ok.loc y (List.mem_of_getElem? hy)
    have z := S.vars i y hy
    rw [e0] at z
    obtain ⟨v0, hv, r0⟩ := z
    rw [exec_AugAssign_Name]
    refine T.bind (T.standAt (T.bind (T.any fun s e g o => ?_)))
    subst e
    refine wpAny_loadName_local ok.kind k1 S.fr.ns hv ⟨g, o, ?_⟩
    refine T.bind (T.holding (T.mono (hf B C ok S e1) fun v h' k => ?_))
    obtain ⟨ρ₁, x1, R1, r1⟩ := k
    refine T.bind (T.standAt (T.bind (T.operate (T.mono (ho B C R1 (S.step x1 R1).base (r0.ext x1) r1 e2) fun v' h'' k => ?_))))
    obtain ⟨ρ₂, x2, R2, r2⟩ := k
    refine T.bind (T.standAt (T.bind (T.bindName (T.store ok ((S.step x1 R1).step x2 R2) hy hi r2 fun h3 m' S' x' => ?_))))
    exact T.pure ⟨ρ₂, m', ((x1.trans x2).toL S.out).trans x', S', rfl⟩
  · cases e3
end
end Mine
namespace Mine
section
variable {prog : Program} {w : World} {A : Around} {os : OsState} {h : Heap}
noncomputable def Keeps (M : Model) (f : Value) (h : Heap) : Prop := ∃ k, (k = Keeper.frame ∨ k = Keeper.machine ∨ k = Keeper.boundFrame) ∧ Looks M h (keeperOf f) k
theorem T.callWith {f : Value} {first : List Value} {p : Pos} {args : List (Bool × Sem Value)} {keywords : List (Option Str × Sem Value)} {Q : Value → Heap → Prop} (hplain : (args.any (·.1) || keywords.any (·.1.isNone)) = false)
    (k : T (model prog w) os A (evalArgs f true args keywords) h fun a h₁ => Keeps (model prog w) f h₁ ∧ T (model prog w) os A (PySem.call f (first ++ a.pos) a.kw) h₁ Q) : T (model prog w) os A (PySem.callWith p f first args keywords) h Q := by
  unfold PySem.callWith
  refine T.bind (T.holding (T.mono k fun a h₁ k1 => ?_))
  obtain ⟨⟨kp, hk', L⟩, k2⟩ := k1
  refine T.bind (T.standAt ?_)
  simp only [hplain]
  refine T.bind (T.looks L ?_)
  have tail : ∀ {t : Sem Value}, T (model prog w) os A t h₁ Q → T (model prog w) os A (t >>= fun r => PySem.holding [r] PySem.point >>= fun _ => Pure.pure r) h₁ Q :=
    fun ht => T.bind (T.mono ht fun r s₂ hr => T.bind (T.holding (T.point (T.pure hr))))
  have marked (mk : Value) : T (model prog w) os A (callMarked mk f (first ++ a.pos) a.kw) h₁ Q := by unfold callMarked; exact T.keep k2
  rcases hk' with rfl | rfl | rfl <;> dsimp only <;> first | exact tail k2 | (split <;> first | exact tail k2 | exact tail (marked _))
theorem Keeps.plain {f : Value} (hf : ∀ a, f ≠ .ref a) : Keeps (model prog w) f h := by
  refine ⟨.machine, .inr (.inl rfl), ?_⟩
  have e : keeperOf f = Pure.pure .machine := by
    unfold keeperOf
    cases f <;> first | rfl | exact absurd rfl (hf _)
  rw [e]; exact .now
theorem T.field {c : Addr} {oc : Obj} {vs : Array Value} {i : Nat} {v : Value} {Q : Value → Heap → Prop} (hoc : h.get? c = some oc) (hd : oc.data = .fields vs) (hv : vs[i]? = some v) (k : Q v h) : T (model prog w) os A (PySem.field (.ref c) i) h Q :=
  T.any fun s e g o => by subst e; exact wpAny_field hoc hd hv ⟨g, o, k⟩
theorem CT.func {body : List Stmt} {env : Env} {Q : Flow → Heap → Prop} (k : T (model prog w) os (A.deeper env) (execs body env) h fun f h' => Q (.ret (match f with | .ret v => v | _ => .none)) h') : CT (model prog w) os A (.func body env) h Q := by
  refine CT.tree rfl ?_
  show T _ _ (A.deeper env) (do point; match ← (execs body env).onRaise (leaving env) with | .ret v => ret v | _ => ret .none) _ _
  refine T.bind (T.point (T.bind (T.onRaise (T.mono k fun f h' q => ?_))))
  cases f <;> exact T.pure q
theorem CT.callFn {a : Addr} {args : Args} {o : Obj} {fd : FuncData} {body : List Stmt} {binds : List (Str × Value)} {Q : Flow → Heap → Prop} (hroom : A.depth < recursionLimit) (hlim : h.NoLimit) (ho : h.get? a = some o) (hd' : o.data = .func fd)
    (hco : fd.scope.isCoroutine = false) (hgen : fd.scope.isGenerator = false) (hk : fd.scope.kind = .function) (hbody : fd.body = .stmts body) (hcd : h.CodeRec fd.code fd.qualname)
    {h1 : Heap} (hb : T (model prog w) os A.in1 (bindArgs fd args) h fun b h' => b = binds ∧ h' = h1) (hlim1 : h1.NoLimit) (hc : ∀ x ∈ fd.scope.names, x.2 ≠ .cell) (hl : ∀ x ∈ binds, fd.scope.names.lookup x.1 = some .local)
    (k : ∀ h₁, h₁.Ns h1.objs.size (fun x => binds.reverse.lookup x) → (∀ b o, h1.get? b = some o → h₁.get? b = some o) → h₁.objs.size = h1.objs.size + 1 →
      T (model prog w) os (A.deeper (newEnv fd.scope h1.objs.size fd.globals fd.closure (fd.qualname ++ ".<locals>.") (some a) fd.code none fd.builtins))
        (execs body (newEnv fd.scope h1.objs.size fd.globals fd.closure (fd.qualname ++ ".<locals>.") (some a) fd.code none fd.builtins)) h₁ fun f h' => Q (.ret (match f with | .ret v => v | _ => .none)) h') :
    CT (model prog w) os A (.call (.ref a) args) h Q := by
  refine CT.tree rfl ?_
  show T _ _ A.in1 (callAny (.ref a) args) _ _
  simp only [callAny]
  refine T.bind (T.load ho ?_)
  obtain ⟨c, oc, vs, tq, hc', hoc, hdc, hq⟩ := hcd
  simp only [hd', callFunction, hco, hgen, hbody, hc']
  rw [hc'] at k
  refine T.bind (m := PySem.field (.ref c) 1) (T.field hoc hdc hq (T.bind (T.pure ?_)))
  refine T.bind (T.mono hb fun b h' q => ?_)
  obtain ⟨rfl, rfl⟩ := q
  refine T.bind (T.any fun s e g o' => ?_)
  subst e
  refine wpAny_newFunctionEnv hc hl (fun h₁ hns hsb => ⟨g, o', ?_⟩) hk
  have keep : ∀ b o, s.heap.get? b = some o → h₁.get? b = some o := fun b o e => hsb.extBut b o (Nat.ne_of_lt (Heap.lt_size e)) (Heap.get?_push_of_some _ e)
  refine T.bind (T.any fun s' e g o' => ?_)
  subst e
  exact wpAny_enterFrame (hlim1.fresh _ hsb) hroom ⟨g, o', T.pure ⟨rfl, CT.func (k _ hns keep (by have := hsb.1; rw [Heap.size_push] at this; exact this))⟩⟩
end

/-- a function on values -/
noncomputable abbrev Fn := List AV → AH → Option (AV × AH)
noncomputable def FnOK (d : Nat) (fv : Value) (kn : List Str) (F : Fn) : Prop :=
  ∀ ⦃prog : Program⦄ {w : World} {os : OsState} {h₀ : Heap} {A : Around} {ρ : List Addr} {σ : AH} {h : Heap} {args : List AV} {ps ks : List Value} {c : AV} {σ' : AH},
    Base w h₀ → Cond d A → Rep h₀ ρ σ h → h₀.objs.size ≤ h.objs.size → VRels ρ args (ps ++ ks) → ks.length = kn.length → F args σ = some (c, σ') →
      T (model prog w) os A (PySem.call fv ps (kn.zip ks)) h fun v h' => VP h₀ ρ h c σ' v h'
noncomputable def KeepsOK (fv : Value) : Prop := ∀ ⦃prog : Program⦄ {w : World} {h₀ h : Heap}, Base w h₀ → (∀ b o, h₀.get? b = some o → h.get? b = some o) → Keeps (model prog w) fv h
theorem KeepsOK.plain {f : Value} (hf : ∀ a, f ≠ .ref a) : KeepsOK f := fun _ => fun _ _ => Keeps.plain hf
theorem KeepsOK.ref {f : Value} (hf : ∀ P, keepIn (hK P) f = true) : KeepsOK f := fun _ => fun {w h₀ h} B k => keeps_K (hf w.params) h (B.X.keeps k)

/-- a def of the text at the top of the claim -/
structure DefOK (fi : FI) (params : Arguments) (body : List Stmt) (dV kV : Value) : Prop where
  at_ : ∃ oc od name doc pm an ct osl, ∀ P, (hK P).lookup fi.addr = some ⟨oc, od, .func (fnOf name fi.qual params body fi.scope dV kV doc pm an fi.cd ct), osl⟩
  code : ∀ P, codeIn (hK P) fi.cd fi.qual = true
  ok : fi.Ok
  co : fi.scope.isCoroutine = false
  gen : fi.scope.isGenerator = false
  cell : (fi.scope.names.any fun x => x.2 == .cell) = false
  nocl : ∀ L, fi.cl L = []

noncomputable def startV (fi : FI) (args : List AV) : Vars := args.map some ++ List.replicate (fi.names.length - args.length) none
noncomputable def fFun (fi : FI) (n : Nat) (f : Ex) : Fn := fun args σ => if args.length = n then (f (startV fi args) σ).bind fun p => match p.1 with
  | .ret a => some (a, p.2.2)
  | .next => some (.none, p.2.2)
  | _ => none
  else none

theorem lookup_zip {names : List Str} : ∀ {vs : List Value} {i : Nat} {x : Str} {v : Value}, names.Nodup → names[i]? = some x → vs[i]? = some v → (names.zip vs).lookup x = some v := by
  induction names with
  | nil => intro vs i x v _ e; simp at e
  | cons y ys ih =>
    intro vs i x v nd e1 e2
    cases vs with
    | nil => simp at e2
    | cons u us =>
      cases i with
      | zero =>
        simp at e1 e2
        subst e1 e2
        simp
      | succ i =>
        simp at e1 e2
        have hne : x ≠ y := fun q => by
          subst q
          exact (List.nodup_cons.mp nd).1 (List.mem_of_getElem? e1)
        rw [List.zip_cons_cons, List.lookup_cons]
        have : (x == y) = false := beq_eq_false_iff_ne.mpr hne
        rw [this]
        exact ih (List.nodup_cons.mp nd).2 e1 e2
theorem lookup_none {names : List Str} : ∀ {vs : List Value} {x : Str}, x ∉ names → (names.zip vs).lookup x = none := by
  induction names with
  | nil => intro vs x _; simp
  | cons y ys ih =>
    intro vs x hx
    cases vs with
    | nil => simp
    | cons u us =>
      rw [List.zip_cons_cons, List.lookup_cons]
      have : (x == y) = false := beq_eq_false_iff_ne.mpr fun q => hx (by rw [q]; exact .head _)
      rw [this]
      exact ih fun q => hx (.tail _ q)
theorem lookup_rev : ∀ {l : List (Str × Value)} {x : Str} {v : Value}, (l.map (·.1)).Nodup → l.lookup x = some v → l.reverse.lookup x = some v
  | [], _, _, _, e => by cases e
  | (y, u) :: l, x, v, nd, e => by
    rw [List.lookup_cons] at e
    rw [List.reverse_cons, List.lookup_append]
    by_cases q : (x == y) = true
    · rw [q] at e
      cases e
      have hy := beq_iff_eq.mp q
      subst hy
      have : l.reverse.lookup x = none := by
        rw [List.lookup_eq_none_iff]
        intro p hp
        have nm := (List.nodup_cons.mp nd).1
        have z : x ≠ p.1 := fun z => nm (List.mem_map.mpr ⟨p, List.mem_reverse.mp hp, z.symm⟩)
        simpa using z
      rw [this]; simp
    · have q' : (x == y) = false := by simpa using q
      rw [q'] at e
      rw [lookup_rev (List.nodup_cons.mp nd).2 e]; rfl

theorem zip_nodup : ∀ {names : List Str} {vs : List Value}, names.Nodup → ((names.zip vs).map (·.1)).Nodup
  | [], _, _ => by simp
  | _ :: _, [], _ => by simp
  | y :: ys, v :: vs, nd => by
    rw [List.zip_cons_cons, List.map_cons]
    refine List.nodup_cons.mpr ⟨fun q => ?_, zip_nodup (List.nodup_cons.mp nd).2⟩
    obtain ⟨p, hp, e⟩ := List.mem_map.mp q
    have e' : p.1 = y := e
    exact (List.nodup_cons.mp nd).1 (e' ▸ (List.of_mem_zip hp).1)
theorem startV_rel {fi : FI} {ρ : List Addr} {args : List AV} {vs : List Value} (nd : fi.names.Nodup) (r : VRels ρ args vs) : VarsRel ρ fi.names (startV fi args) fun x => (fi.names.zip vs).reverse.lookup x := by
  intro i x hx
  unfold startV
  by_cases hi : i < args.length
  · rw [List.getElem?_append_left (by simpa using hi), List.getElem?_map]
    obtain ⟨v, hv, rv⟩ := VRels.get r (List.getElem?_eq_getElem hi)
    rw [List.getElem?_eq_getElem hi]
    refine ⟨v, lookup_rev ?_ (lookup_zip nd hx hv), rv⟩
    exact zip_nodup nd
  · rw [List.getElem?_append_right (by simpa using hi), List.getElem?_replicate]
    split <;> trivial

theorem none_back {h h' : Heap} {a : Addr} (k : ∀ b o, h.get? b = some o → h'.get? b = some o) (q : h'.get? a = none) : h.get? a = none := by
  cases e : h.get? a with
  | none => rfl
  | some o => rw [k a o e] at q; cases q
noncomputable def fDef (da : List AV) (F : Fn) : Fn := fun args σ => F (args ++ da) σ
/-- the same of the code itself -/
noncomputable def FnCT (d : Nat) (a : Addr) (kn : List Str) (F : Fn) : Prop :=
  ∀ ⦃prog : Program⦄ {w : World} {os : OsState} {h₀ : Heap} {A : Around} {ρ : List Addr} {σ : AH} {h : Heap} {args : List AV} {ps ks : List Value} {c : AV} {σ' : AH},
    Base w h₀ → Cond d A → Rep h₀ ρ σ h → h₀.objs.size ≤ h.objs.size → VRels ρ args (ps ++ ks) → ks.length = kn.length → F args σ = some (c, σ') →
      CT (model prog w) os A (.call (.ref a) ⟨ps, kn.zip ks⟩) h fun fl h' => ∃ v, fl = .ret v ∧ VP h₀ ρ h c σ' v h'
theorem FnCT.ok {d : Nat} {a : Addr} {kn : List Str} {F : Fn} (h : FnCT d a kn F) : FnOK d (.ref a) kn F := fun _ => fun B C R hz r hk e => T.call (h B C R hz r hk e)
theorem FnCT.def {fi : FI} {d n : Nat} {kn : List Str} {params : Arguments} {body : List Stmt} {f : Ex} {dV kV : Value} {da : List AV} {dv : List Value} (D : DefOK fi params body dV kV) (hf : ExsOK fi d f body) (hda : ∀ ρ, VRels ρ da dv) (hn : n ≤ fi.names.length)
    (hb : ∀ (w : World) (s : Shared) (name : Str) (doc pm : Value) (an : Option Addr) (ct : Value) (ps ks : List Value), (hK w.params).In s.heap → ps.length + ks.length + dv.length = n → ks.length = kn.length →
      BindsTo s (fnOf name fi.qual params body fi.scope dV kV doc pm an fi.cd ct) ⟨ps, kn.zip ks⟩ (fi.names.zip (ps ++ ks ++ dv))) : FnCT (d + 1) fi.addr kn (fDef da (fFun fi n f)) := by
  intro prog w os h₀ A ρ σ h args ps ks c σ' B C R hz r0 hkn e
  unfold fDef fFun at e
  have r : VRels ρ (args ++ da) (ps ++ ks ++ dv) := r0.append (hda ρ)
  split at e
  · rename_i hlen
    obtain ⟨⟨fl, v', σ₁⟩, e1, e⟩ := Option.bind_eq_some_iff.mp e
    obtain ⟨oc, od, name, doc, pm, an, ct, osl, hat⟩ := D.at_
    have X := B.X.keeps R.keep
    have hlim : h.NoLimit := B.lim.keeps R.keep
    have hvl : ps.length + ks.length + dv.length = n := by rw [← hlen, r.length, List.length_append, List.length_append]
    have hloc : ∀ x ∈ fi.names.zip (ps ++ ks ++ dv), fi.scope.names.lookup x.1 = some .local := fun x hx => (D.ok.loc x.1 (List.of_mem_zip hx).1).1
    have hcell : ∀ x ∈ fi.scope.names, x.2 ≠ .cell := fun x hx q => by
      have := D.cell
      rw [List.any_eq_false] at this
      exact this x hx (by rw [q]; rfl)
    have CD : ∀ env, Cond d (A.deeper env) := fun env => ⟨by have := C.depth; show A.depth + 1 + 4 * d ≤ 900; lia, by have := C.units; show A.units + 3 + 20 * d ≤ 9000; lia, C.handled, C.guards⟩
    refine (CT.callFn (o := ⟨oc, od, .func (fnOf name fi.qual params body fi.scope dV kV doc pm an fi.cd ct), osl⟩) (h1 := h) (binds := fi.names.zip (ps ++ ks ++ dv)) (by have := C.depth; show A.depth < 1000; lia) hlim (X _ _ (hat _)) rfl D.co D.gen D.ok.kind rfl (codeRec_of X (D.code _)) ?_ hlim hcell hloc ?_)
    · exact T.any fun s e g o => hb w s name doc pm an ct ps ks (by rw [e]; exact X) hvl hkn _ _ _ _ ⟨g, o, rfl, e⟩
    · intro h₁ hns keep hsz
      have R₁ : Rep h₀ ρ σ h₁ := R.grown keep
      have x₁ : Ext ρ h ρ h₁ := Ext.grown keep
      have S : FS fi h₀ ρ σ h₁ h.objs.size (fun x => (fi.names.zip (ps ++ ks ++ dv)).reverse.lookup x) (startV fi (args ++ da)) :=
        ⟨R₁, ⟨hns, R₁.keep, hz⟩, R.notin, startV_rel D.ok.nodup r, fun x a e => by rw [D.nocl] at e; cases e⟩
      have henv : newEnv fi.scope h.objs.size mainGlobals [] (fi.qual ++ ".<locals>.") (some fi.addr) fi.cd none builtinsNs = fi.env h.objs.size := by
        unfold FI.env
        rw [D.nocl]
        rfl
      show T _ _ (A.deeper (newEnv fi.scope h.objs.size mainGlobals [] (fi.qual ++ ".<locals>.") (some fi.addr) fi.cd none builtinsNs)) (execs body (newEnv fi.scope h.objs.size mainGlobals [] (fi.qual ++ ".<locals>.") (some fi.addr) fi.cd none builtinsNs)) _ _
      rw [henv]
      refine T.mono (hf B (CD _) D.ok S e1) fun fl' h' k => ?_
      obtain ⟨ρ', m', xl, S', rf⟩ := k
      have hL : h.get? h.objs.size = none := none_of_size h
      have x2 : Ext ρ h ρ' h' := ⟨xl.pre, fun a ha => (xl.new a ha).imp id (fun q => none_back keep q), fun b o hb hn => xl.keep b o (keep b o hb) hn (Nat.ne_of_lt (Heap.lt_size hb))⟩
      dsimp only at e
      cases fl with
      | next =>
        cases e
        rw [show fl' = .next from rf]
        exact ⟨_, rfl, ρ', x2, S'.rep, rfl⟩
      | ret a =>
        cases e
        obtain ⟨v, rfl, rv⟩ := rf
        exact ⟨_, rfl, ρ', x2, S'.rep, rv⟩
      | cont => cases e
      | brk => cases e
  · cases e
end Mine
namespace Mine
theorem T.letGo {prog : Program} {w : World} {A : Around} {os : OsState} {h : Heap} {b : Expr} {o r : Value} {Q : Unit → Heap → Prop} (k : Q () h) : T (model prog w) os A (letTemporaryGo b o r) h Q := by
  have run : T (model prog w) os A (do let _ ← PySem.holding [r] (PySem.runValue (.builtin "proto.let_go" {}))) h Q :=
    T.bind (T.holding (T.any fun s e g o => wpAny_runValue (codeAny_builtin entry_let_go (show wpAny _ _ (ret .none) _ _ s from wpAny_pure ⟨g, o, by subst e; exact T.pure k⟩))))
  unfold letTemporaryGo
  split
  · exact T.pure k
  · exact run
  · exact T.pure k

/-- a row of expressions -/
noncomputable def plainArg : Expr → Bool
  | .Starred .. => false
  | _ => true
noncomputable def evs : List Ev → Vars → AH → Option (List AV × AH)
  | [], _, σ => some ([], σ)
  | f :: fs, vars, σ => (f vars σ).bind fun p => (evs fs vars p.2).map fun q => (p.1 :: q.1, q.2)
noncomputable def EvAll (fi : FI) (d : Nat) : List Ev → List Expr → Prop
  | [], [] => True
  | f :: fs, x :: xs => EvOK fi d f x ∧ plainArg x = true ∧ EvAll fi d fs xs
  | _, _ => False
noncomputable def EvKw (fi : FI) (d : Nat) : List Ev → List Keyword → List Str → Prop
  | [], [], [] => True
  | f :: fs, ⟨some n, x, p⟩ :: ks, m :: ms => EvOK fi d f x ∧ n = m ∧ EvKw fi d fs ks ms
  | _, _, _ => False
theorem EvKw.inv {fi : FI} {d : Nat} {f : Ev} {fs : List Ev} {ks : List Keyword} {ms : List Str} (h : EvKw fi d (f :: fs) ks ms) :
    ∃ n x p ks' mm ms', ks = ⟨some n, x, p⟩ :: ks' ∧ ms = mm :: ms' ∧ EvOK fi d f x ∧ n = mm ∧ EvKw fi d fs ks' ms' := by
  cases ks with
  | nil => exact h.elim
  | cons k ks =>
    obtain ⟨n, x, p⟩ := k
    cases n with
    | none => exact h.elim
    | some n =>
      cases ms with
      | nil => exact h.elim
      | cons mm ms => exact ⟨n, x, p, ks, mm, ms, rfl, rfl, h⟩
theorem EvAll.length {fi : FI} {d : Nat} : ∀ {fs : List Ev} {xs : List Expr}, EvAll fi d fs xs → fs.length = xs.length
  | [], [], _ => rfl
  | _ :: _, _ :: _, h => by rw [List.length_cons, List.length_cons, EvAll.length h.2.2]
theorem evs_append {fs gs : List Ev} {vars : Vars} {σ : AH} : evs (fs ++ gs) vars σ = (evs fs vars σ).bind fun p => (evs gs vars p.2).map fun q => (p.1 ++ q.1, q.2) := by
  induction fs generalizing σ with
  | nil =>
    show evs gs vars σ = _
    cases h : evs gs vars σ <;> simp [evs, h]
  | cons f fs ih =>
    rw [List.cons_append, evs, evs]
    cases f vars σ with
    | none => rfl
    | some p =>
      simp only [Option.bind_some]
      rw [ih]
      cases evs fs vars p.2 with
      | none => rfl
      | some q =>
        simp only [Option.bind_some, Option.map_some, Option.map_map]
        cases evs gs vars q.2 <;> rfl
theorem starEach_plain {x : Expr} {xs : List Expr} {env : Env} (h : plainArg x = true) : starEach (x :: xs) env = (false, eval x env) :: starEach xs env := by
  cases x <;> first | rfl | cases h
section
variable {fi : FI} {d : Nat} {prog : Program} {w : World} {os : OsState} {h₀ : Heap} {A : Around} {ρ : List Addr} {σ : AH} {h : Heap} {L : Addr} {m : Str → Option Value} {vars : Vars}
/-- what a row of values leaves -/
noncomputable def EP (h₀ : Heap) (ρ : List Addr) (h : Heap) (as : List AV) (σ' : AH) (vs : List Value) (h' : Heap) : Prop := ∃ ρ', Ext ρ h ρ' h' ∧ Rep h₀ ρ' σ' h' ∧ VRels ρ' as vs
theorem T.spliced {pos : Pos} : ∀ {fs : List Ev} {xs : List Expr} {ρ : List Addr} {σ : AH} {h : Heap} {as : List AV} {σ' : AH}, EvAll fi d fs xs → Base w h₀ → Cond d A → fi.Ok → FS fi h₀ ρ σ h L m vars → evs fs vars σ = some (as, σ') →
    T (model prog w) os A (PySem.spliced (backTo pos (starEach xs (fi.env L)))) h (EP h₀ ρ h as σ') := by
  intro fs
  induction fs with
  | nil =>
    intro xs ρ σ h as σ' hf B C ok S e
    cases xs with
    | nil =>
      cases e
      exact T.pure ⟨ρ, Ext.refl, S.rep, trivial⟩
    | cons x xs => exact hf.elim
  | cons f fs ih =>
    intro xs ρ σ h as σ' hf B C ok S e
    cases xs with
    | nil => exact hf.elim
    | cons x xs =>
    rw [evs] at e
    obtain ⟨⟨a, σ₁⟩, e1, e⟩ := Option.bind_eq_some_iff.mp e
    obtain ⟨⟨bs, σ₂⟩, e2, e⟩ := Option.map_eq_some_iff.mp e
    cases e
    rw [starEach_plain hf.2.1]
    show T _ _ _ (do
      let v ← eval x (fi.env L)
      let here ← Pure.pure [v]
      return here ++ (← PySem.holding here (PySem.spliced (backTo pos (starEach xs (fi.env L)))))) _ _
    refine T.bind (T.mono (hf.1 B C ok S e1) fun v h₁ k => ?_)
    obtain ⟨ρ₁, x1, R1, r1⟩ := k
    refine T.bind (T.pure (T.bind (T.holding (T.mono (ih hf.2.2 B C ok (S.step x1 R1) e2) fun vs h₂ k => T.pure ?_))))
    obtain ⟨ρ₂, x2, R2, r2⟩ := k
    exact ⟨ρ₂, x1.trans x2, R2, r1.ext x2, r2⟩
theorem T.kwEach {pos : Pos} : ∀ {fs : List Ev} {ks : List Keyword} {ms : List Str} {ρ : List Addr} {σ : AH} {h : Heap} {as : List AV} {σ' : AH}, EvKw fi d fs ks ms → Base w h₀ → Cond d A → fi.Ok → FS fi h₀ ρ σ h L m vars → evs fs vars σ = some (as, σ') →
    T (model prog w) os A (evalAll ((backToKw pos (keywordEach ks (fi.env L))).map (·.2))) h (EP h₀ ρ h as σ') := by
  intro fs
  induction fs with
  | nil =>
    intro ks ms ρ σ h as σ' hf B C ok S e
    cases ks with
    | nil =>
      cases e
      exact T.pure ⟨ρ, Ext.refl, S.rep, trivial⟩
    | cons k ks => exact hf.elim
  | cons f fs ih =>
    intro ks ms ρ σ h as σ' hf B C ok S e
    obtain ⟨n, x, p, ks, mm, ms, rfl, rfl, hf⟩ := EvKw.inv hf
    rw [evs] at e
    obtain ⟨⟨a, σ₁⟩, e1, e⟩ := Option.bind_eq_some_iff.mp e
    obtain ⟨⟨bs, σ₂⟩, e2, e⟩ := Option.map_eq_some_iff.mp e
    cases e
    show T _ _ _ (do
      let v ← (do let v ← eval x (fi.env L); PySem.standAt pos; Pure.pure v)
      return v :: (← PySem.holding [v] (evalAll ((backToKw pos (keywordEach ks (fi.env L))).map (·.2))))) _ _
    refine T.bind (T.bind (T.mono (hf.1 B C ok S e1) fun v h₁ k => ?_))
    obtain ⟨ρ₁, x1, R1, r1⟩ := k
    refine T.bind (T.standAt (T.pure (T.bind (T.holding (T.mono (ih hf.2.2 B C ok (S.step x1 R1) e2) fun vs h₂ k => T.pure ?_)))))
    obtain ⟨ρ₂, x2, R2, r2⟩ := k
    exact ⟨ρ₂, x1.trans x2, R2, r1.ext x2, r2⟩
theorem kw_facts {pos : Pos} {env : Env} : ∀ {fs : List Ev} {ks : List Keyword} {ms : List Str}, EvKw fi d fs ks ms →
    (backToKw pos (keywordEach ks env)).all (·.1.isSome) = true ∧ (backToKw pos (keywordEach ks env)).any (·.1.isNone) = false ∧ (backToKw pos (keywordEach ks env)).filterMap (·.1) = ms ∧ fs.length = ms.length ∧ ks.length = ms.length
  | [], [], [], _ => ⟨rfl, rfl, rfl, rfl, rfl⟩
  | f :: fs, ⟨some n, x, p⟩ :: ks, mm :: ms, hf => by
    obtain ⟨a, b, c, e, g⟩ := kw_facts (pos := pos) (env := env) hf.2.2
    obtain ⟨_, rfl, _⟩ := hf
    refine ⟨?_, ?_, ?_, by rw [List.length_cons, List.length_cons, e], by rw [List.length_cons, List.length_cons, g]⟩
    · show (true && (backToKw pos (keywordEach ks env)).all (·.1.isSome)) = true
      rw [a]; rfl
    · show (false || (backToKw pos (keywordEach ks env)).any (·.1.isNone)) = false
      rw [b]; rfl
    · show n :: (backToKw pos (keywordEach ks env)).filterMap (·.1) = n :: ms
      rw [c]
theorem star_facts {pos : Pos} {env : Env} : ∀ {fs : List Ev} {xs : List Expr}, EvAll fi d fs xs → (backTo pos (starEach xs env)).any (·.1) = false ∧ (backTo pos (starEach xs env)).all (!·.1) = true ∧ (backTo pos (starEach xs env)).length = xs.length
  | [], [], _ => ⟨rfl, rfl, rfl⟩
  | f :: fs, x :: xs, hf => by
    obtain ⟨a, b, c⟩ := star_facts (pos := pos) (env := env) hf.2.2
    rw [starEach_plain hf.2.1]
    refine ⟨?_, ?_, ?_⟩
    · show (false || _) = false
      exact a
    · show (true && _) = true
      rw [Bool.true_and]; exact b
    · show List.length (_ :: _) = _
      rw [List.length_cons, List.length_cons]
      exact congrArg (· + 1) c
theorem T.evalArgs_of {f : Value} {args : List (Bool × Sem Value)} {kws : List (Option Str × Sem Value)} {Q : Args → Heap → Prop} (h1 : args.any (·.1) = false) (h2 : kws.all (·.1.isSome) = true)
    (k : T (model prog w) os A (PySem.spliced args) h fun vs h1 => T (model prog w) os A (evalAll (kws.map (·.2))) h1 fun ks h2 => Q ⟨vs, (kws.filterMap (·.1)).zip ks⟩ h2) : T (model prog w) os A (PySem.evalArgs f true args kws) h Q := by
  have fin : ∀ {vs : List Value} {h' : Heap} {t : Sem (List Value)}, T (model prog w) os A t h' (fun ks h2 => Q ⟨vs, (kws.filterMap (·.1)).zip ks⟩ h2) →
      T (model prog w) os A (t >>= fun ks => (Pure.pure vs : Sem _) >>= fun p => Pure.pure ⟨p, (kws.filterMap (·.1)).zip ks⟩) h' Q := fun ht => T.bind (T.mono ht fun ks h2 q => T.bind (T.pure (T.pure q)))
  unfold PySem.evalArgs
  rcases args with _ | ⟨⟨b, x⟩, rest⟩
  · show T _ _ _ (PySem.spliced [] >>= _) _ _
    refine T.bind (T.mono k fun vs h' q => ?_)
    refine T.bind (T.pure ?_)
    refine T.holding ?_
    simp only [h2, if_true]
    exact fin q
  · cases b with
    | true => cases h1
    | false =>
      show T _ _ _ (PySem.spliced ((false, x) :: rest) >>= _) _ _
      refine T.bind (T.mono k fun vs h' q => ?_)
      refine T.holding ?_
      simp only [h2, if_true]
      exact fin q
theorem T.evalArgs {f : Value} {pos : Pos} {fs gs : List Ev} {xs : List Expr} {ks : List Keyword} {ms : List Str} {as : List AV} {σ' : AH} (hf : EvAll fi d fs xs) (hk : EvKw fi d gs ks ms) (B : Base w h₀) (C : Cond d A) (ok : fi.Ok) (S : FS fi h₀ ρ σ h L m vars)
    (e : evs (fs ++ gs) vars σ = some (as, σ')) :
    T (model prog w) os A (PySem.evalArgs f true (backTo pos (starEach xs (fi.env L))) (backToKw pos (keywordEach ks (fi.env L)))) h fun a h' => ∃ ps kv, a = ⟨ps, ms.zip kv⟩ ∧ kv.length = ms.length ∧ EP h₀ ρ h as σ' (ps ++ kv) h' := by
  obtain ⟨k1, k2, k3, k4, k5⟩ := kw_facts (pos := pos) (env := fi.env L) hk
  obtain ⟨s1, s2, s3⟩ := star_facts (pos := pos) (env := fi.env L) hf
  rw [evs_append] at e
  obtain ⟨⟨a1, σ₁⟩, e1, e⟩ := Option.bind_eq_some_iff.mp e
  obtain ⟨⟨a2, σ₂⟩, e2, e⟩ := Option.map_eq_some_iff.mp e
  cases e
  refine T.evalArgs_of s1 k1 (T.mono (T.spliced hf B C ok S e1) fun ps h₁ k => ?_)
  obtain ⟨ρ₁, x1, R1, r1⟩ := k
  refine T.mono (T.kwEach hk B C ok (S.step x1 R1) e2) fun kv h₂ k => ?_
  obtain ⟨ρ₂, x2, R2, r2⟩ := k
  refine ⟨ps, kv, by rw [k3], ?_, ρ₂, x1.trans x2, R2, (r1.ext x2).append r2⟩
  rw [← r2.length, ← k4]
  have : ∀ {fs : List Ev} {σ : AH} {as : List AV} {σ' : AH}, evs fs vars σ = some (as, σ') → as.length = fs.length := by
    intro fs
    induction fs with
    | nil => intro σ as σ' e; cases e; rfl
    | cons f fs ih =>
      intro σ as σ' e
      rw [evs] at e
      obtain ⟨⟨a, σ₁⟩, e1, e⟩ := Option.bind_eq_some_iff.mp e
      obtain ⟨⟨bs, σ₂⟩, e2, e⟩ := Option.map_eq_some_iff.mp e
      cases e
      rw [List.length_cons, List.length_cons, ih e2]
  exact this e2
end

section
variable {fi : FI} {d : Nat}
/-- a call of a value that is known -/
noncomputable def eCall (fs : List Ev) (F : Fn) : Ev := fun vars σ => (evs fs vars σ).bind fun p => F p.1 p.2
theorem EvOK.call {x : Str} {fv : Value} {F : Fn} {fs gs : List Ev} {xs : List Expr} {ks : List Keyword} {ms : List Str} {p q : Pos} (hx : EvOK fi d (eSt fv) (.Name x p)) (hk : KeepsOK fv) (hF : FnOK d fv ms F) (hf : EvAll fi d fs xs) (hg : EvKw fi d gs ks ms) :
    EvOK fi d (eCall (fs ++ gs) F) (.Call (.Name x p) xs ks q) := by
  intro prog w os h₀ A ρ σ h L m vars a σ' B C ok S e
  unfold eCall at e
  obtain ⟨⟨as, σ₁⟩, e1, e⟩ := Option.bind_eq_some_iff.mp e
  rw [arm_eval_Call_Name']
  refine T.bind (T.mono (hx B C ok S rfl) fun fv' h₁ k => ?_)
  obtain ⟨ρ₁, x1, R1, r1⟩ := k
  rw [show fv' = fv from r1]
  obtain ⟨k1, k2, k3, k4, k5⟩ := kw_facts (pos := q) (env := fi.env L) hg
  obtain ⟨s1, s2, s3⟩ := star_facts (pos := q) (env := fi.env L) hf
  refine T.callWith (by rw [s1, k2]; rfl) (T.mono (T.evalArgs hf hg B C ok (S.step x1 R1) e1) fun ar h₂ k => ?_)
  obtain ⟨ps, kv, rfl, hl, ρ₂, x2, R2, r2⟩ := k
  refine ⟨hk B R2.keep, ?_⟩
  exact T.mono (hF B C R2 ((S.step x1 R1).step x2 R2).base r2 hl e) fun v h₃ k => VP.trans (x1.trans x2) k

/-- a look-up of a method on a value -/
noncomputable def MethOK (d : Nat) (name : Str) (sel : AV → AH → Option Bool) (fv : Value) (self : Bool) : Prop :=
  ∀ ⦃prog : Program⦄ {w : World} {os : OsState} {h₀ : Heap} {A : Around} {ρ : List Addr} {σ : AH} {h : Heap} {a : AV} {v : Value} {pl : Sem Bool},
    Base w h₀ → Cond d A → Rep h₀ ρ σ h → VRel ρ a v → sel a σ = some self → T (model prog w) os A (getMethod v name pl) h fun r h' => h' = h ∧ r = (fv, if self then [v] else [])
theorem methodCallPos_T {prog : Program} {w : World} {os : OsState} {A : Around} {h : Heap} {few : Bool} {o : Expr} {env : Env} {ap p : Pos} {α : Type} {k : Pos → Sem α} {Q : α → Heap → Prop} (he : (!few || ap.endLine == p.line) = true) (q : T (model prog w) os A (k p) h Q) :
    T (model prog w) os A (methodCallPos few o env ap p >>= k) h Q := by
  unfold methodCallPos
  rw [if_pos he]
  exact T.bind (T.pure q)
noncomputable def plainBase : Expr → Bool
  | .Call (.Name ..) [] [] _ => false
  | _ => true
theorem attributeBase_plain {o : Expr} {n : Str} {env : Env} {t : Sem Value} (h : plainBase o = true) : attributeBase o n env t = t := by
  unfold attributeBase
  split
  · cases h
  · rfl
/-- a call of what a dot names -/
noncomputable def eMeth (fo : Ev) (sel : AV → AH → Option Bool) (fs : List Ev) (F : Fn) : Ev := fun vars σ => (fo vars σ).bind fun o => (sel o.1 o.2).bind fun b => (evs fs vars o.2).bind fun p => F (if b then o.1 :: p.1 else p.1) p.2
theorem EvOK.meth {o : Expr} {name : Str} {sel : AV → AH → Option Bool} {fv : Value} {self : Bool} {F : Fn} {fo : Ev} {fs gs : List Ev} {xs : List Expr} {ks : List Keyword} {ms : List Str} {p q : Pos} (ho : EvOK fi d fo o) (hb : plainBase o = true)
    (hm : MethOK d name sel fv self) (hsel : ∀ a σ b, sel a σ = some b → b = self) (hk : KeepsOK fv) (hF : FnOK d fv ms F) (hf : EvAll fi d fs xs) (hg : EvKw fi d gs ks ms) (hp : (p.endLine == q.line) = true) (hn : xs.length + ms.length + 1 < 30) :
    EvOK fi d (eMeth fo sel (fs ++ gs) F) (.Call (.Attribute o name p) xs ks q) := by
  intro prog w os h₀ A ρ σ h L m vars a σ' B C ok S e
  unfold eMeth at e
  obtain ⟨⟨ao, σ₁⟩, e1, e⟩ := Option.bind_eq_some_iff.mp e
  obtain ⟨b, e2, e⟩ := Option.bind_eq_some_iff.mp e
  obtain ⟨⟨as, σ₂⟩, e3, e⟩ := Option.bind_eq_some_iff.mp e
  obtain ⟨k1, k2, k3, k4, k5⟩ := kw_facts (pos := q) (env := fi.env L) hg
  obtain ⟨s1, s2, s3⟩ := star_facts (pos := q) (env := fi.env L) hf
  have hsf := hsel _ _ _ e2
  subst hsf
  rw [arm_eval_Call, attributeBase_plain hb]
  refine T.bind (T.mono (ho B C ok S e1) fun vo h₁ k => ?_)
  obtain ⟨ρ₁, x1, R1, r1⟩ := k
  refine T.bind (T.standAt ?_)
  unfold methodCall calleeOf
  have few : methodCallForm (xs.length + ks.length) (backTo q (starEach xs (fi.env L))) (backToKw q (keywordEach ks (fi.env L))) = true := by
    unfold methodCallForm
    rw [s2, k1]
    simp only [Bool.true_and, decide_eq_true_eq]
    rw [k5]
    split <;> lia
  rw [few]
  refine T.bind (T.holding (T.mono (hm B C R1 r1 e2) fun r h₂ k => ?_))
  obtain ⟨rfl, rfl⟩ := k
  refine methodCallPos_T (by rw [hp]; rfl) ?_
  refine T.callWith (by rw [s1, k2]; rfl) (T.mono (T.evalArgs hf hg B C ok (S.step x1 R1) e3) fun ar h₂ k => ?_)
  obtain ⟨ps, kv, rfl, hl, ρ₂, x2, R2, r2⟩ := k
  refine ⟨hk B R2.keep, ?_⟩
  refine T.mono (hF (ps := (if b = true then [vo] else []) ++ ps) (args := if b = true then ao :: as else as) B C R2 ((S.step x1 R1).step x2 R2).base ?_ hl e) fun v h₃ k => VP.trans (x1.trans x2) k
  cases b
  · exact r2
  · exact ⟨r1.ext x2, r2⟩

/-- a read by a dot -/
noncomputable def AttrOK (d : Nat) (name : Str) (sem : AV → AH → Option AV) : Prop :=
  ∀ ⦃prog : Program⦄ {w : World} {os : OsState} {h₀ : Heap} {A : Around} {ρ : List Addr} {σ : AH} {h : Heap} {a c : AV} {v : Value},
    Base w h₀ → Cond d A → Rep h₀ ρ σ h → VRel ρ a v → sem a σ = some c → T (model prog w) os A (getAttr v name true) h fun r h' => h' = h ∧ VRel ρ c r
noncomputable def eAttr (fo : Ev) (sem : AV → AH → Option AV) : Ev := fun vars σ => (fo vars σ).bind fun o => (sem o.1 o.2).map fun c => (c, o.2)
theorem EvOK.attr {o : Expr} {name : Str} {sem : AV → AH → Option AV} {fo : Ev} {p : Pos} (hb : plainBase o = true) (hs : AttrOK d name sem) (ho : EvOK fi d fo o) : EvOK fi d (eAttr fo sem) (.Attribute o name p) := by
  intro prog w os h₀ A ρ σ h L m vars a σ' B C ok S e
  unfold eAttr at e
  obtain ⟨⟨ao, σ₁⟩, e1, e⟩ := Option.bind_eq_some_iff.mp e
  obtain ⟨c, e2, e⟩ := Option.map_eq_some_iff.mp e
  cases e
  rw [arm_eval_Attribute, attributeBase_plain hb]
  refine T.bind (T.mono (ho B C ok S e1) fun vo h₁ k => ?_)
  obtain ⟨ρ₁, x1, R1, r1⟩ := k
  refine T.bind (T.standAt (T.bind (T.holding (T.mono (hs B C R1 r1 e2) fun r h₂ k => ?_))))
  obtain ⟨rfl, r2⟩ := k
  exact T.bind (T.letGo (T.pure ⟨ρ₁, x1, R1, r2⟩))
end
end Mine
namespace Mine
section
open PySem.Calls PySem.Builtin PySem.Builtin.ObjectAttr PySem.Builtin.Getset_descriptor
variable {prog : Program} {w : World} {A : Around} {s : Shared} {K : Frag} {x C p i : Nat} {ox : Obj} {od : Option Obj} {v : Value} {R : Result → Shared → Prop}
noncomputable abbrev putSlot (i : Nat) (v : Value) (o : Obj) : Obj := { o with slots := (o.slots ++ Array.replicate (i + 1 - o.slots.size) none).setIfInBounds i (some v) }
/-- a slot's descriptor takes a value, the heap told -/
theorem slot_setU (X : K.In s.heap) (I : InstAt s.heap x ox C od) (hp : slotIn K p C = some i) (hi : i < 1000) (h : R (.ok (.ret .none)) { s with heap := s.heap.update x (putSlot i v) }) :
    codeAny (model prog w) A (.call (.builtin "member_descriptor.__set__") ⟨[.ref p, .ref x, v], []⟩) R s := by
  obtain ⟨n, tn, owner, behind, tb, d, sl, cd, ho, hc, hm, hb, rfl⟩ := slot_of X hp
  obtain ⟨hh, g, dr, t, os⟩ := s
  have L0 := I.type (M := model prog w)
  have L1 := looks_mroIn (M := model prog w) X hm
  have L2 : Looks (model prog w) hh (Slots.slotNamesOf (.ref C)) cd.slotNames := (looks_clsIn X hc).andThen .now
  have hx := I.at_
  dsimp only at ho hx L0 L1
  have f0 := looks_field (M := model prog w) ho 0 (v := .str n tn) rfl
  have f1 := looks_field (M := model prog w) ho 1 (v := owner) rfl
  have f3 := looks_field (M := model prog w) ho 3 (v := .builtin "proto.slot#set") rfl
  have f4 := looks_field (M := model prog w) ho 4 (v := .int behind tb) rfl
  have f5 : Looks (model prog w) hh (descrItself (.ref p)) [.ref p] := ((Looks.ld (part := none) ho).andThen .now).andThen (Looks.of_pure (by kernel_rfl))
  refine codeAny_call_builtin KF.slot_mset.plain KF.entry_mset (KF.slot_mset.check _ _ _ _ _ _ _ _ ⟨_, ho, rfl⟩ (KF.args_mset _ _ _) ?_)
  unfold Builtin.«member_descriptor.__set__» descrSet descrStoreThrough descrCheckInstance descrNameAndClass isInstance
  repeat lk
  refine ⟨Code.quiet_builtin _ (by decide +kernel), codeAny_builtin KF.entry_slotset ?_⟩
  unfold Builtin.«proto.slot#set» Slots.target
  repeat lk
  rw [if_neg hb]
  refine wpAny_pure (wpAny_bind ?_)
  unfold setSlotAt
  dsimp only
  rw [if_neg (by rw [sizeLine_eq]; lia)]
  exact wpAny_updatePart hx (wpAny_pure h)
end
/-- the facts of a slot -/
noncomputable def slotK (K : Frag) (C : Addr) (name : Str) (p : Addr) (i : Nat) : Bool :=
  plainGet K C name && isClsIn K C && findIn K (.ref C) name == some (some (.ref p)) && specialIn K (.ref p) "__get__" == some (some (.builtin "member_descriptor.__get__")) && takesIn K (.ref p) == some true && slotIn K p C == some i &&
  findIn K (.ref C) "__setattr__" == some (some (.builtin "object.__setattr__")) && plainOver K C && takerIn K C name == some (some (.ref p)) && typeIn K (.ref p) == some (.type "member_descriptor") && decide (i < 1000)
noncomputable def SlotOK (c : Cl) (name : Str) (i : Nat) : Prop := ∃ p, ∀ P, slotK (hK P) c.addr name p i = true
/-- the object of a value -/
noncomputable def instOf (c : Cl) (a : AV) (σ : AH) : Option (Nat × Nat × List (Option AV)) := match a with
  | .obj k => match σ[k]? with
    | some (.inst c' d sl) => if c' = c ∧ σ[d]? = some .edict then some (k, d, sl) else none
    | _ => none
  | _ => none
theorem instOf_some {c : Cl} {a : AV} {σ : AH} {k d : Nat} {sl : List (Option AV)} (e : instOf c a σ = some (k, d, sl)) : a = .obj k ∧ σ[k]? = some (.inst c d sl) ∧ σ[d]? = some .edict := by
  unfold instOf at e
  split at e
  · split at e
    · rename_i q
      split at e
      · rename_i z
        obtain ⟨rfl, z⟩ := z
        cases e
        exact ⟨rfl, q, z⟩
      · cases e
    · cases e
  · cases e
theorem instAt_of {c : Cl} {a : AV} {σ : AH} {k d : Nat} {sl : List (Option AV)} {h₀ h : Heap} {ρ : List Addr} {v : Value} (R : Rep h₀ ρ σ h) (r : VRel ρ a v) (e : instOf c a σ = some (k, d, sl)) :
    ∃ x o, v = .ref x ∧ ρ[k]? = some x ∧ InstAt h x o c.addr (some (dictOf [] 0)) ∧ ORel ρ (.inst c d sl) o := by
  obtain ⟨rfl, e1, e2⟩ := instOf_some e
  obtain ⟨x, hx, rfl⟩ := r
  obtain ⟨o, ho, ro⟩ := R.get e1 hx
  have ro' := ro
  obtain ⟨c1, c2, ⟨dx, hdx, c3⟩, c4⟩ := ro
  obtain ⟨od, hod, rod⟩ := R.get e2 hdx
  refine ⟨x, o, rfl, hx, ⟨ho, c1, by unfold notCls; rw [c2], ?_⟩, ro'⟩
  rw [c3]
  show h.get? dx = some (dictOf [] 0)
  rw [hod, show od = emptyDict from rod]
noncomputable def noSt : AV → Option AV
  | .st _ => none
  | a => some a
noncomputable def semSlot (c : Cl) (i : Nat) : AV → AH → Option AV := fun a σ => (instOf c a σ).bind fun q => (q.2.2[i]?).join.bind noSt
theorem attrSlot {d : Nat} {c : Cl} {name : Str} {i : Nat} (hs : SlotOK c name i) : AttrOK d name (semSlot c i) := by
  intro prog w os h₀ A ρ σ h a cv v B C R r e
  unfold semSlot at e
  obtain ⟨⟨k, dd, sl⟩, e1, e⟩ := Option.bind_eq_some_iff.mp e
  obtain ⟨x, o, rfl, hx, I, ro⟩ := instAt_of R r e1
  obtain ⟨p, hp⟩ := hs
  have hp := hp w.params
  unfold slotK at hp
  simp only [Bool.and_eq_true, beq_iff_eq, decide_eq_true_eq] at hp
  obtain ⟨⟨⟨⟨⟨⟨⟨⟨⟨⟨k1, k2⟩, k3⟩, k4⟩, k5⟩, k6⟩, k7⟩, k8⟩, k9⟩, k10⟩, k11⟩ := hp
  have X := B.X.keeps R.keep
  obtain ⟨_, _, _, rs⟩ := ro
  have rv := rs i
  dsimp only at e
  obtain ⟨cv', e0, e⟩ := Option.bind_eq_some_iff.mp e
  have e2 : cv = cv' := by cases cv' <;> cases e <;> rfl
  subst e2
  rw [e0] at rv
  obtain ⟨u, hu, ru⟩ := rv
  refine T.any fun s e g o' => ?_
  subst e
  have hh : handedIn u = true := by
    cases cv with
    | none => rw [show u = .none from ru]; rfl
    | bool _ => rw [show u = .bool _ from ru]; rfl
    | int _ => obtain ⟨_, rfl⟩ := ru; rfl
    | str _ => obtain ⟨_, rfl⟩ := ru; rfl
    | bytes _ => obtain ⟨_, rfl⟩ := ru; rfl
    | obj _ => obtain ⟨_, _, rfl⟩ := ru; rfl
    | st w' => cases e
  exact get_bind X I (plainGet_of k1).1 (findObj_data k2 k3 k4 k5) (plainGet_of k1).2 (wpAny_call (slot_get (s := { s with toks := s.toks + 1 }) X I k6 hu (handed_on hh ⟨g, o', rfl, ru⟩)))

/-- a store by a dot -/
noncomputable def setSlot (c : Cl) (i : Nat) (a v : AV) (σ : AH) : Option AH := (instOf c a σ).bind fun q => if i < q.2.2.length then some (σ.set q.1 (.inst c q.2.1 (q.2.2.set i (some v)))) else none
theorem putSlot_other {o : Obj} {i j : Nat} {v x : Value} (hj : j ≠ i) (h : (o.slots[j]?).join = some x) : (((putSlot i v o).slots)[j]?).join = some x := by
  have hj' : j < o.slots.size := by
    by_cases q : j < o.slots.size
    · exact q
    · rw [Array.getElem?_eq_none (by lia)] at h; cases h
  show ((((o.slots ++ Array.replicate (i + 1 - o.slots.size) none).setIfInBounds i (some v)))[j]?).join = some x
  rw [Array.getElem?_setIfInBounds_ne (Ne.symm hj), Array.getElem?_append_left hj']
  exact h
theorem putSlot_self {o : Obj} {i : Nat} {v : Value} : (((putSlot i v o).slots)[i]?).join = some v := by
  show ((((o.slots ++ Array.replicate (i + 1 - o.slots.size) none).setIfInBounds i (some v)))[i]?).join = some v
  rw [Array.getElem?_setIfInBounds_self_of_lt]
  · rfl
  · simp; lia
theorem T.setAttr {prog : Program} {w : World} {os : OsState} {h₀ : Heap} {A : Around} {ρ : List Addr} {σ : AH} {h : Heap} {a b : AV} {va vb : Value} {σ' : AH} {c : Cl} {name : Str} {i : Nat} {Q : Unit → Heap → Prop} (hs : SlotOK c name i) (B : Base w h₀) (R : Rep h₀ ρ σ h) (ra : VRel ρ a va) (rb : VRel ρ b vb)
    (e : setSlot c i a b σ = some σ') (k : ∀ h', Rep h₀ ρ σ' h' → Ext ρ h ρ h' → Q () h') : T (model prog w) os A (PySem.setAttr va name vb) h Q := by
  unfold setSlot at e
  obtain ⟨⟨kk, dd, sl⟩, e1, e⟩ := Option.bind_eq_some_iff.mp e
  split at e
  · rename_i hi
    cases e
    obtain ⟨x, o, rfl, hx, I, ro⟩ := instAt_of R ra e1
    obtain ⟨p, hp⟩ := hs
    have hp := hp w.params
    unfold slotK at hp
    simp only [Bool.and_eq_true, beq_iff_eq, decide_eq_true_eq] at hp
    obtain ⟨⟨⟨⟨⟨⟨⟨⟨⟨⟨k1, k2⟩, k3⟩, k4⟩, k5⟩, k6⟩, k7⟩, k8⟩, k9⟩, k10⟩, k11⟩ := hp
    have X := B.X.keeps R.keep
    refine T.any fun s e g o' => ?_
    subst e
    refine set_plain X I k7 (osa_descr (s := { s with toks := s.toks + 1 }) KF.slot_mset X I k8 k9 k10 (slot_setU (s := { s with toks := s.toks + 1 }) X I k6 k11 ⟨g, o', k _ (R.set hx (instOf_some e1).2.1 rfl I.at_ ?_ ?_) (Ext.set (List.mem_of_getElem? hx))⟩))
    · obtain ⟨_, c2, _, _⟩ := ro
      show Obj.isFreed _ = false
      obtain ⟨oc, odi, oda, osl⟩ := o
      cases c2
      rfl
    · obtain ⟨c1, c2, c3, c4⟩ := ro
      refine ⟨c1, c2, c3, fun j => ?_⟩
      by_cases hj : j = i
      · subst hj
        rw [List.getElem?_set_self hi, putSlot_self]
        exact ⟨vb, rfl, rb⟩
      · rw [List.getElem?_set_ne (Ne.symm hj)]
        have := c4 j
        cases q : (sl[j]?).join with
        | none => trivial
        | some y =>
          rw [q] at this
          obtain ⟨z, hz, rz⟩ := this
          exact ⟨z, putSlot_other hj hz, rz⟩
  · cases e
section
variable {fi : FI} {d : Nat}
noncomputable def xSet (c : Cl) (i : Nat) (fo f : Ev) : Ex := fun vars σ => (f vars σ).bind fun p => (fo vars p.2).bind fun q => (setSlot c i q.1 p.1 q.2).map fun σ' => (.next, vars, σ')
theorem ExOK.set {c : Cl} {i : Nat} {name : Str} {fo f : Ev} {o x : Expr} {p q : Pos} (hs : SlotOK c name i) (hc : noComp x = true) (ho : EvOK fi d fo o) (hf : EvOK fi d f x) : ExOK fi d (xSet c i fo f) (.Assign [.Attribute o name p] x q) := by
  intro prog w os h₀ A ρ σ h L m vars vars' a σ' B C ok S e
  unfold xSet at e
  obtain ⟨⟨v1, σ₁⟩, e1, e⟩ := Option.bind_eq_some_iff.mp e
  obtain ⟨⟨v2, σ₂⟩, e2, e⟩ := Option.bind_eq_some_iff.mp e
  obtain ⟨σ₃, e3, e⟩ := Option.map_eq_some_iff.mp e
  cases e
  rw [plainObj_exec_Assign_Attribute _ _ _ _ _ (swaps_no hc)]
  refine T.bind (T.standAt (T.bind (T.mono (hf B C ok S e1) fun v h₁ k => ?_)))
  obtain ⟨ρ₁, x1, R1, r1⟩ := k
  rw [assign_Attribute]
  refine T.bind (T.bind (T.holding (T.mono (ho B C ok (S.step x1 R1) e2) fun ov h₂ k => ?_)))
  obtain ⟨ρ₂, x2, R2, r2⟩ := k
  refine T.bind (T.standAt (T.bind (T.holding (T.setAttr hs B R2 r2 (r1.ext x2) e3 fun h₃ R3 x3 => ?_))))
  refine T.release (T.pure ⟨ρ₂, m, ((x1.trans x2).trans x3).toL S.out, ?_, rfl⟩)
  exact (((S.step x1 R1).step x2 R2)).step x3 R3
end
end Mine
namespace Mine
noncomputable def avIs : AV → Value → Bool
  | .int i, .int j _ => i == j
  | .st x, v => v == x && handedIn v
  | _, _ => false
theorem avIs_rel {ρ : List Addr} {a : AV} {v : Value} (h : avIs a v = true) : VRel ρ a v ∧ handedIn v = true := by
  unfold avIs at h
  split at h
  · rw [beq_iff_eq] at h; subst h; exact ⟨⟨_, rfl⟩, rfl⟩
  · simp only [Bool.and_eq_true, beq_iff_eq] at h
    exact ⟨h.1, h.2⟩
  · cases h
noncomputable def clsK (K : Frag) (C : Addr) (name : Str) (a : AV) : Bool := specialIn K (.ref C) "__getattribute__" == some (some (.builtin "type.__getattribute__")) && match typeIn K (.ref C) with
  | some mc => readsIn K C mc && (match findCls K (.ref C) mc name with
      | some (.val v) => avIs a v
      | _ => false)
  | none => false
noncomputable abbrev ce (c : Addr) (n : Str) (a : AV) : Addr × Str × AV := (c, n, a)
noncomputable def clsTab : List (Addr × Str × AV) := [
  ce 64 "bytewidth" (AV.int 1), ce 78 "bytewidth" (AV.int 2), ce 92 "bytewidth" (AV.int 4), ce 106 "bytewidth" (AV.int 8), ce 120 "bytewidth" (AV.int 4), ce 134 "bytewidth" (AV.int 4),
  ce 146 "bytewidth" (AV.int 4), ce 158 "bytewidth" (AV.int 2), ce 64 "min_val" (AV.int 0), ce 92 "min_val" (AV.int 0), ce 106 "min_val" (AV.int 0), ce 120 "min_val" (AV.int (-2147483648)),
  ce 134 "min_val" (AV.int (-2147483648)), ce 146 "min_val" (AV.int 0), ce 158 "min_val" (AV.int 0), ce 64 "max_val" (AV.int 255), ce 92 "max_val" (AV.int 4294967295), ce 106 "max_val" (AV.int 18446744073709551615),
  ce 120 "max_val" (AV.int 2147483647), ce 134 "max_val" (AV.int 2147483647), ce 146 "max_val" (AV.int 4294967295), ce 158 "max_val" (AV.int 65535), ce 64 "packer_type" (AV.st (Value.ref 50)), ce 106 "packer_type" (AV.st (Value.ref 53)),
  ce 120 "packer_type" (AV.st (Value.ref 54)), ce 134 "packer_type" (AV.st (Value.ref 54)), ce 146 "packer_type" (AV.st (Value.ref 52)), ce 158 "packer_type" (AV.st (Value.ref 51)), ce 749 "MAX_BUFFER_SIZE" (AV.int 2147483648)]
noncomputable def clsAttr (C : Addr) (n : Str) : Option AV := (clsTab.find? fun e => e.1 == C && e.2.1 == n).map (·.2.2)
noncomputable def ClsOK : Prop := ∀ P, (clsTab.all fun e => clsK (hK P) e.1 e.2.1 e.2.2) = true
theorem clsAttr_some {C : Addr} {n : Str} {a : AV} (H : ClsOK) (e : clsAttr C n = some a) (P : Params) : clsK (hK P) C n a = true := by
  unfold clsAttr at e
  obtain ⟨q, hq, rfl⟩ := Option.map_eq_some_iff.mp e
  have h1 := List.find?_some hq
  simp only [Bool.and_eq_true, beq_iff_eq] at h1
  obtain ⟨rfl, rfl⟩ := h1
  exact List.all_eq_true.mp (H P) q (List.mem_of_find?_eq_some hq)
section
variable {d : Nat}
/-- flags.py_type is int -/
noncomputable def intK (K : Frag) (C : Addr) : Bool := nsIn K cStatics "thirdparty.any" == some none && typeIn K (.ref C) == some (.type "type") && findIn K (.type "type") "__getattribute__" == some (some (.builtin "type.__getattribute__")) &&
  subIn K (.type "type") (.type "type") == some true && findIn K (.type "type") "py_type" == some none && findIn K (.ref C) "py_type" == some (some (.type "int")) && specialIn K (.ref C) "__getattribute__" == some (some (.builtin "type.__getattribute__"))
noncomputable def intTab : List Addr := [92, 106, 120, 134, 146, 158]
noncomputable def IntOK : Prop := ∀ P, (intTab.all fun C => intK (hK P) C) = true
theorem noGet_int : specialOf (.type "int") "__get__" = Pure.pure none := by
  show typeLookup (.type _) "__get__" = _
  rw [show ((Manifest.find? "int").elim "type" (·.metatype)) = "type" from by decide +kernel, typeLookup_type, builtinLookup_eq_fast]
  kernel_rfl
section
open PySem.Calls PySem.Builtin PySem.Builtin.ObjectAttr
theorem cls_int {prog : Program} {w : World} {A : Around} {E : Value → Shared → Prop} {s : Shared} {K : Frag} {C : Addr} {Q : Value → Shared → Prop} {expr : Bool} (X : K.In s.heap) (H : intK K C = true) (h : Q (.type "int") { s with toks := s.toks + 1 }) :
    wpAny (model prog w) A (getAttr (.ref C) "py_type" expr) Q E s := by
  unfold intK at H
  simp only [Bool.and_eq_true, beq_iff_eq] at H
  obtain ⟨⟨⟨⟨⟨⟨k1, k2⟩, k3⟩, k4⟩, k5⟩, k6⟩, k7⟩ := H
  have ho := looks_opaque (M := model prog w) (C := C) X k1
  have ht := looks_typeIn (M := model prog w) X k2
  refine wpAny_bind (wpAny_mkText (wpAny_holding (wpAny_bind (ht _ _ _ _ (fun _ _ e => e) (wpAny_bind (looks_findIn X k3 _ _ _ _ (fun _ _ e => e) ?_))))))
  dsimp only
  rw [show (onTheHeap (.type "type") && Value.builtin "type.__getattribute__" == Value.builtin "object.__getattribute__") = false from by rw [show (Value.builtin "type.__getattribute__" == Value.builtin "object.__getattribute__") = false from by decide +kernel, Bool.and_false], if_neg (by decide)]
  refine wpAny_bind ((looks_hook X (r := none) rfl) _ _ _ _ (fun _ _ e => e) (wpAny_bind (wpAny_attempt (wpAny_holding ?_))))
  unfold callGetattribute
  rw [show (expr && onTheHeap (Value.builtin "type.__getattribute__")) = false from Bool.and_false _, if_neg (by decide)]
  unfold boundAndCalled
  rw [KF.slot_tga.bind]
  refine wpAny_bind (wpAny_pure ?_)
  show wpAny _ _ (call (.builtin "type.__getattribute__") [.ref C, .str "py_type" s.toks]) _ _ _
  refine wpAny_call ?_
  refine codeAny_call_builtin KF.slot_tga.plain KF.entry_tga ?_
  refine @check_slot (model prog w) _ _ { s with toks := s.toks + 1 } "type.__getattribute__" "type" "__getattribute__" (.ref C) [.str "py_type" s.toks] [] _ (by decide +kernel) (by decide +kernel) (ht.andThen (looks_subIn X k4)) (KF.args_tga (.ref C) (.str "py_type" s.toks)) ?_
  obtain ⟨hh, g, d, t, os⟩ := s
  have L1 := looks_findIn (M := model prog w) X k5
  have L2 := looks_findIn (M := model prog w) X k6
  unfold Builtin.«type.__getattribute__»
  refine wpAny_bind (wpAny_pure (wpAny_bind (ho.at (wpAny_bind (ht.at (wpAny_bind (L1.at ?_)))))))
  refine wpAny_bind (wpAny_pure (wpAny_bind (L2.at ?_)))
  dsimp only
  rw [if_neg (show ¬ heldUnderItsOwnName "py_type" (.type "int") = true from by decide +kernel)]
  refine wpAny_bind (wpAny_of_eq (a := .type "type") (by show Pure.pure _ = _; rw [show ((Manifest.find? "int").elim "type" (·.metatype)) = "type" from by decide +kernel]) ?_)
  rw [if_neg (by decide +kernel)]
  refine wpAny_bind (wpAny_of_eq noGet_int ?_)
  dsimp only
  rw [handedOut_of rfl]
  refine wpAny_bind (wpAny_pure (wpAny_pure ?_))
  show wpAny _ _ (handedOut (.type "int")) _ _ _
  rw [handedOut_of rfl]
  exact wpAny_pure h
end
noncomputable def semCls (name : Str) : AV → AH → Option AV := fun a _ => match a with
  | .st (.ref C) => clsAttr C name
  | _ => none
theorem attrCls {name : Str} (H : ClsOK) : AttrOK d name (semCls name) := by
  intro prog w os h₀ A ρ σ h a cv v B C R r e
  unfold semCls at e
  split at e
  · rename_i C'
    have hk := clsAttr_some H e w.params
    unfold clsK at hk
    simp only [Bool.and_eq_true] at hk
    obtain ⟨_, hk⟩ := hk
    split at hk
    · rename_i mc hm
      simp only [Bool.and_eq_true] at hk
      obtain ⟨hr, hk⟩ := hk
      split at hk
      · rename_i u hu
        obtain ⟨ru, hh⟩ := avIs_rel (ρ := ρ) hk
        rw [show v = .ref C' from r]
        refine T.any fun s e g o' => ?_
        subst e
        exact cls_value (B.X.keeps R.keep) hr hu hh ⟨g, o', rfl, ru⟩
      · cases hk
    · cases hk
  · cases e
/-- flags.py_type(..) -/
noncomputable def selPy : AV → AH → Option Bool := fun a _ => match a with
  | .st (.ref C) => if C ∈ intTab then some false else none
  | _ => none
theorem methPy (H : IntOK) : MethOK d "py_type" selPy (.type "int") false := by
  intro prog w os h₀ A ρ σ h a v pl B C R r e
  unfold selPy at e
  split at e
  · rename_i C'
    split at e
    · rename_i q
      have hk := List.all_eq_true.mp (H w.params) C' q
      have hk' := hk
      unfold intK at hk'
      simp only [Bool.and_eq_true, beq_iff_eq] at hk'
      rw [show v = .ref C' from r]
      refine T.any fun s e g o' => ?_
      subst e
      exact method_cls (B.X.keeps R.keep) hk'.2 (cls_int (B.X.keeps R.keep) hk ⟨g, o', rfl, rfl⟩)
    · cases e
  · cases e
/-- a method of an object -/
noncomputable def methK (K : Frag) (C : Addr) (name : Str) (f : Addr) : Bool := plainGet K C name && findIn K (.ref C) name == some (some (.ref f)) && typeIn K (.ref f) == some (.type "function") && keepIn K (.ref f)
noncomputable def MethK (c : Cl) (name : Str) (f : Addr) : Prop := ∀ P, methK (hK P) c.addr name f = true
noncomputable def selI (c : Cl) : AV → AH → Option Bool := fun a σ => (instOf c a σ).map fun _ => true
theorem selI_true (c : Cl) : ∀ a σ b, selI c a σ = some b → b = true := fun a σ b e => by
  unfold selI at e
  obtain ⟨_, _, rfl⟩ := Option.map_eq_some_iff.mp e
  rfl
theorem selPy_false : ∀ a σ b, selPy a σ = some b → b = false := fun a σ b e => by
  unfold selPy at e
  split at e
  · split at e <;> cases e; rfl
  · cases e
theorem methI {c : Cl} {name : Str} {f : Addr} (H : MethK c name f) : MethOK d name (selI c) (.ref f) true := by
  intro prog w os h₀ A ρ σ h a v pl B C R r e
  unfold selI at e
  obtain ⟨⟨k, dd, sl⟩, e1, _⟩ := Option.map_eq_some_iff.mp e
  obtain ⟨x, o, rfl, hx, I, ro⟩ := instAt_of R r e1
  have hm := H w.params
  unfold methK at hm
  simp only [Bool.and_eq_true, beq_iff_eq] at hm
  obtain ⟨⟨⟨k1, k2⟩, k3⟩, k4⟩ := hm
  refine T.any fun s e g o' => ?_
  subst e
  refine method_fn (B.X.keeps R.keep) I (plainGet_of k1).1 (plainGet_of k1).2 k2 k3 ?_ ⟨g, o', rfl, rfl⟩
  show (lookIn name (dictOf [] 0)).map _ = _
  rw [lookIn_dict]; rfl
theorem MethK.keeps {c : Cl} {name : Str} {f : Addr} (H : MethK c name f) : KeepsOK (.ref f) := KeepsOK.ref fun P => by
  have hm := H P
  unfold methK at hm
  simp only [Bool.and_eq_true] at hm
  exact hm.2
end
end Mine
set_option maxRecDepth 100000
namespace Mine
theorem clsOK : ClsOK := fun P => by kernel_rfl
theorem intOK : IntOK := fun P => by kernel_rfl
theorem sBytes : SlotOK .builder "Bytes" 0 := ⟨750, fun P => by kernel_rfl⟩
theorem sVtable : SlotOK .builder "current_vtable" 1 := ⟨751, fun P => by kernel_rfl⟩
theorem sFinished : SlotOK .builder "finished" 2 := ⟨752, fun P => by kernel_rfl⟩
theorem sForce : SlotOK .builder "forceDefaults" 3 := ⟨753, fun P => by kernel_rfl⟩
theorem sHead : SlotOK .builder "head" 4 := ⟨754, fun P => by kernel_rfl⟩
theorem sMinalign : SlotOK .builder "minalign" 5 := ⟨755, fun P => by kernel_rfl⟩
theorem sNested : SlotOK .builder "nested" 6 := ⟨756, fun P => by kernel_rfl⟩
theorem sObjectEnd : SlotOK .builder "objectEnd" 7 := ⟨757, fun P => by kernel_rfl⟩
theorem sShared : SlotOK .builder "sharedStrings" 8 := ⟨758, fun P => by kernel_rfl⟩
theorem sElems : SlotOK .builder "vectorNumElems" 9 := ⟨759, fun P => by kernel_rfl⟩
theorem sVtables : SlotOK .builder "vtables" 10 := ⟨760, fun P => by kernel_rfl⟩
theorem tBytes : SlotOK .table "Bytes" 0 := ⟨264, fun P => by kernel_rfl⟩
theorem tPos : SlotOK .table "Pos" 1 := ⟨265, fun P => by kernel_rfl⟩
end Mine
set_option maxRecDepth 100000
namespace Mine
section
open PySem.Calls PySem.Builtin PySem.Builtin.ObjectAttr PySem.Builtin.Getset_descriptor
variable {prog : Program} {w : World} {A : Around} {os : OsState} {h : Heap} {K : Frag}
/-- a class is called -/
theorem CT.make {C fI : Addr} {rest : List Value} {kw : List (Str × Value)} {Q : Flow → Heap → Prop} (X : K.In h) (hm : makesIn K C = true) (hi' : findIn K (.ref C) "__init__" = some (some (.ref fI))) (hf : typeIn K (.ref fI) = some (.type "function"))
    (k : T (model prog w) os (A.under (.builtin "type.__call__" ⟨.ref C :: rest, kw⟩)) (PySem.call (.ref fI) (.ref (h.objs.size + 1) :: rest) kw) ((h.push PySem.W.emptyDict).push (instObj C h.objs.size)) fun v h' => v = .none ∧ Q (.ret (.ref (h.objs.size + 1))) h') :
    CT (model prog w) os A (.call (.ref C) ⟨rest, kw⟩) h Q := by
  have Y := makes_of (M := model prog w) X hm
  have Y' := Y
  have hi := looks_findIn (M := model prog w) X hi'
  have hb := fun self => bind_fn (M := model prog w) X self hf
  obtain ⟨⟨oc, od, cd, sl, hC, e1, e2, e4⟩, made, base, self, top, call, typ⟩ := Y
  refine CT.tree rfl ?_
  show T _ _ A.in1 (callAny (.ref C) _) _ _
  have via : callAny (.ref C) ⟨rest, kw⟩ = (PySem.load C >>= fun o => match o.data with
    | .func fd => callFunction C fd ⟨rest, kw⟩
    | .fields vs =>
      if o.cls == .type "method" || o.cls == .type "builtin_function_or_method" || o.cls == .type "method-wrapper" then do
        let (some func, some self) := (vs[0]?, vs[1]?) | unsupported "internal:method-record"
        let all : Args := { pos := self :: rest, kw := kw }
        if let .builtin bid := func then
          if o.cls != .type "method" then
            checkBoundCall bid all
            return ← again (.builtin bid all)
        again (.call func all)
      else callAny.viaDunder (.ref C) ⟨rest, kw⟩
    | _ => callAny.viaDunder (.ref C) ⟨rest, kw⟩) := rfl
  rw [via]
  refine T.bind (T.load hC ?_)
  show T _ _ _ (callAny.viaDunder (.ref C) _) _ _
  unfold callAny.viaDunder
  refine T.bind (T.looks call ?_)
  dsimp only
  rw [tc_bind]
  refine T.bind (T.pure (T.bind (T.pure ?_)))
  refine T.pure (a := Fin.again (.call (.builtin "type.__call__") ⟨.ref C :: rest, kw⟩)) ⟨rfl, ?_⟩
  refine CT.tree rfl ?_
  show T _ _ A.in1 (do checkBuiltinCall "type.__call__" ⟨.ref C :: rest, kw⟩; again (.builtin "type.__call__" ⟨.ref C :: rest, kw⟩)) _ _
  refine T.bind (T.any fun s e g o => check_slot tc_kind tc_split (by rw [e]; exact typ) (tc_args _ _ _) ⟨g, o, ?_⟩)
  subst e
  refine T.pure ⟨Code.quiet_builtin _ (by decide +kernel), CT.builtin entry_typeCall (by decide +kernel) ?_⟩
  have hmro : Looks (model prog w) s.heap (mroOf (.ref C)) cd.mro := ((Looks.ld (part := none) hC).andThen .now).andThen .now
  unfold Builtin.«type.__call__»
  dsimp only
  refine T.ite_false (by rw [show (Value.ref C == Value.type "type") = false from rfl]; decide) ?_
  refine T.bind (T.looks hmro ?_)
  rw [e4]
  refine T.ite_false Bool.false_ne_true ?_
  refine T.bind (T.looks made ?_)
  refine T.bind (T.pure ?_)
  have kp : ∀ b o, s.heap.get? b = some o → ((s.heap.push PySem.W.emptyDict).push (instObj C s.heap.objs.size)).get? b = some o := fun b o e => Heap.get?_push_of_some _ (Heap.get?_push_of_some _ e)
  refine T.bind (T.holding (T.mono (Q := fun v h' => v = .ref (s.heap.objs.size + 1) ∧ h' = (s.heap.push PySem.W.emptyDict).push (instObj C s.heap.objs.size)) (T.any fun s' e' g' o' => ?_) fun v h' z => ?_))
  · obtain ⟨hh, gg, dd, tt, oo⟩ := s'
    dsimp only at e' g' o'
    subst e'
    exact wpAny_call (new_K Y' hi (.inl rfl) ⟨g', o', rfl, rfl⟩)
  obtain ⟨rfl, rfl⟩ := z
  have hx : ((s.heap.push PySem.W.emptyDict).push (instObj C s.heap.objs.size)).get? (s.heap.objs.size + 1) = some (instObj C s.heap.objs.size) := by heap_get
  have t1 : Looks (model prog w) ((s.heap.push PySem.W.emptyDict).push (instObj C s.heap.objs.size)) (typeOf (.ref (s.heap.objs.size + 1))) (.ref C) := (Looks.ld hx).andThen .now
  have s1 := self.keeps kp
  have i1 := hi.keeps kp
  have b1 := (hb (.ref (s.heap.objs.size + 1))).keeps kp
  refine T.bind ?_
  unfold isInstance
  refine T.bind (T.looks t1 (T.looks s1 ?_))
  refine T.ite_false (by decide) ?_
  refine T.bind (T.holding ?_)
  unfold callSpecial? specialOf
  refine T.bind (T.bind (T.looks t1 (T.looks i1 ?_)))
  refine T.holding (T.bind (T.looks b1 ?_))
  refine T.bind (T.mono k fun f h' z => ?_)
  obtain ⟨rfl, z⟩ := z
  exact T.pure (T.ite_false (by decide) (T.pure z))
end
noncomputable def clsNew (c : Cl) : Nat := match c with
  | .builder => 11
  | .table => 2
noncomputable def fNew (c : Cl) (F : Fn) : Fn := fun args σ => (F (.obj (σ.length + 1) :: args) ((σ ++ [.edict]) ++ [.inst c σ.length (List.replicate (clsNew c) none)])).bind fun p => if p.1 = .none then some (.obj (σ.length + 1), p.2) else none
noncomputable def newK (K : Frag) (C fI : Addr) : Bool := makesIn K C && findIn K (.ref C) "__init__" == some (some (.ref fI)) && typeIn K (.ref fI) == some (.type "function") && keepIn K (.ref C)
theorem FnOK.new {d : Nat} {c : Cl} {fI : Addr} {F : Fn} (H : ∀ P, newK (hK P) c.addr fI = true) (hF : FnOK d (.ref fI) [] F) : FnOK (d + 1) (.ref c.addr) [] (fNew c F) := by
  intro prog w os h₀ A ρ σ h args ps ks cv σ' B C R hz r hkn e
  unfold fNew at e
  obtain ⟨⟨a, σ₁⟩, e1, e⟩ := Option.bind_eq_some_iff.mp e
  dsimp only at e
  split at e
  · rename_i ha
    subst ha
    cases e
    have hm := H w.params
    unfold newK at hm
    simp only [Bool.and_eq_true, beq_iff_eq] at hm
    obtain ⟨⟨⟨k1, k2⟩, k3⟩, k4⟩ := hm
    have X := B.X.keeps R.keep
    have hks : ks = [] := List.eq_nil_of_length_eq_zero hkn
    subst hks
    rw [List.append_nil] at r
    have Rd := R.push hz (o := PySem.W.emptyDict) (ao := .edict) rfl rfl
    have Ri := Rd.push (by rw [Heap.size_push]; lia) (o := instObj c.addr h.objs.size) (ao := .inst c σ.length (List.replicate (clsNew c) none)) ⟨rfl, rfl, ⟨h.objs.size, pre_get R.newAt, rfl⟩, fun i => by
      rw [List.getElem?_replicate]
      split <;> trivial⟩ rfl
    have x := (Ext.push (ρ := ρ) (h := h) PySem.W.emptyDict).trans (Ext.push (instObj c.addr h.objs.size))
    refine T.call (CT.make (K := hK w.params) X k1 k2 k3 (T.mono (hF (ps := .ref (h.objs.size + 1) :: ps) (ks := []) B ?_ Ri ?_ (args := .obj (σ.length + 1) :: args) ?_ rfl e1) fun v h' z => ?_))
    · have e2 : (A.under (.builtin "type.__call__" ⟨.ref c.addr :: ps, [].zip []⟩)).units ≤ A.units + 10 := by
        show A.units + _ ≤ A.units + 10
        exact Nat.add_le_add_left (Nat.le_of_ble_eq_true rfl) _
      have e3 := C.units
      have e4 := C.depth
      have e5 : (A.under (.builtin "type.__call__" ⟨.ref c.addr :: ps, [].zip []⟩)).depth = A.depth + 1 := rfl
      refine ⟨by rw [e5]; lia, by lia, C.handled, ?_⟩
      unfold Around.under
      dsimp only
      rw [C.guards, show Code.guards (.builtin "type.__call__" ⟨.ref c.addr :: ps, [].zip []⟩) = [] from by
        unfold Code.guards
        exact if_neg (show ¬ guardIds.contains "type.__call__" = true by decide +kernel)]
      rfl
    · rw [Heap.size_push, Heap.size_push]; lia
    · have z := Rd.newAt
      rw [Heap.size_push] at z
      rw [List.append_nil, List.length_append] at *
      refine ⟨⟨h.objs.size + 1, ?_, rfl⟩, r.ext x⟩
      rw [Heap.size_push]
      exact z
    · obtain ⟨ρ', x2, R2, r2⟩ := z
      rw [show v = .none from r2]
      refine ⟨rfl, _, rfl, ρ', x.trans x2, R2, ?_⟩
      have z := Rd.newAt
      rw [Heap.size_push, List.length_append] at z
      obtain ⟨ts, e⟩ := x2.pre
      refine ⟨h.objs.size + 1, ?_, rfl⟩
      rw [e]
      exact pre_get (by rw [Heap.size_push]; exact z)
  · cases e
theorem newBuilder (P : Params) : newK (hK P) Cl.builder.addr 363 = true := by kernel_rfl
theorem newTable (P : Params) : newK (hK P) Cl.table.addr 196 = true := by kernel_rfl
end Mine
set_option maxRecDepth 100000
namespace Mine
namespace BF
theorem slot_getitem : Slot "bytearray" "__getitem__" "bytearray.__getitem__" :=
  .of (owner := "bytearray") (n := "__getitem__") (by rw [typeLookup_type, builtinLookup_eq_fast]; kernel_rfl) (by decide +kernel) (by decide +kernel) (by decide +kernel)
    (by first | exact .inl (by decide +kernel) | exact .inr (by decide +kernel)) (by rw [isSubtype_type]; kernel_rfl)
theorem entry_getitem : entryFor table "bytearray.__getitem__" = some Builtin.«bytearray.__getitem__» := entryFor_of_tree (by kernel_rfl)
theorem args_getitem (a b : Value) : argsOk "bytearray.__getitem__" ⟨[a, b], []⟩ := by unfold argsOk; kernel_rfl
theorem slot_setitem : Slot "bytearray" "__setitem__" "bytearray.__setitem__" :=
  .of (owner := "bytearray") (n := "__setitem__") (by rw [typeLookup_type, builtinLookup_eq_fast]; kernel_rfl) (by decide +kernel) (by decide +kernel) (by decide +kernel)
    (by first | exact .inl (by decide +kernel) | exact .inr (by decide +kernel)) (by rw [isSubtype_type]; kernel_rfl)
theorem entry_setitem : entryFor table "bytearray.__setitem__" = some Builtin.«bytearray.__setitem__» := entryFor_of_tree (by kernel_rfl)
theorem args_setitem (a b c : Value) : argsOk "bytearray.__setitem__" ⟨[a, b, c], []⟩ := by unfold argsOk; kernel_rfl
theorem slot_len : Slot "bytearray" "__len__" "bytearray.__len__" :=
  .of (owner := "bytearray") (n := "__len__") (by rw [typeLookup_type, builtinLookup_eq_fast]; kernel_rfl) (by decide +kernel) (by decide +kernel) (by decide +kernel)
    (by first | exact .inl (by decide +kernel) | exact .inr (by decide +kernel)) (by rw [isSubtype_type]; kernel_rfl)
theorem entry_len : entryFor table "bytearray.__len__" = some Builtin.«bytearray.__len__» := entryFor_of_tree (by kernel_rfl)
theorem args_len (a : Value) : argsOk "bytearray.__len__" ⟨[a], []⟩ := by unfold argsOk; kernel_rfl
theorem bytes_index : typeLookup (.type "bytes") "__index__" = pure none := noIndex_bytes
theorem bytes_int : typeLookup (.type "bytes") "__int__" = pure none := by rw [typeLookup_type, builtinLookup_eq_fast]; kernel_rfl
theorem bytes_float : typeLookup (.type "bytes") "__float__" = pure none := by rw [typeLookup_type, builtinLookup_eq_fast]; kernel_rfl
theorem bytes_complex : isSubtype (.type "bytes") (.type "complex") = pure false := by rw [isSubtype_type]; kernel_rfl
end BF
section
variable {prog : Program} {w : World} {A : Around} {os : OsState} {h : Heap}
theorem T.callSpecial {Ty id : String} {name : Str} {a : Addr} {o : Obj} {args : List Value} {b : Builtin} {Q : Option Value → Heap → Prop} (sl : Slot Ty name id) (hb : entryFor table id = some b) (hh : Builtin.Bytes.decodersThatHold.contains id = false)
    (ho : h.get? a = some o) (hc : o.cls = .type Ty) (hok : argsOk id ⟨.ref a :: args, []⟩)
    (k : T (model prog w) os A.in1 (b ⟨.ref a :: args, []⟩) h (FinT (model prog w) os A fun f h' => ∃ v, f = .ret v ∧ Q (some v) h')) : T (model prog w) os A (callSpecial? (.ref a) name args) h Q := by
  unfold callSpecial?
  refine T.bind (T.specialOf ho hc sl.lookup ?_)
  refine T.holding (T.bind (T.eq (sl.bind _) ?_))
  refine T.bind (T.slotCall sl hb hh ho hc hok (T.mono k fun fin h' q => ?_))
  cases fin with
  | done f => obtain ⟨v, rfl, q⟩ := q; exact ⟨v, rfl, T.pure q⟩
  | again c => exact ⟨q.1, CT.mono q.2 fun f h' q => by obtain ⟨v, rfl, q⟩ := q; exact ⟨v, rfl, T.pure q⟩⟩
theorem T.getItem {Ty id : String} {a : Addr} {o : Obj} {i : Value} {b : Builtin} {Q : Value → Heap → Prop} (hn : seqItemTypes.contains Ty = false) (sl : Slot Ty "__getitem__" id) (hb : entryFor table id = some b) (hh : Builtin.Bytes.decodersThatHold.contains id = false)
    (ho : h.get? a = some o) (hc : o.cls = .type Ty) (hok : argsOk id ⟨[.ref a, i], []⟩)
    (k : T (model prog w) os A.in1 (b ⟨[.ref a, i], []⟩) h (FinT (model prog w) os A fun f h' => ∃ v, f = .ret v ∧ Q v h')) : T (model prog w) os A (PySem.getItem (.ref a) i) h Q := by
  unfold PySem.getItem
  refine T.holding (T.bind (T.any fun s e g o' => wpAny_sequenceKey (T := Ty) (show s.TypeIs (.ref a) Ty from ⟨o, by rw [e]; exact ho, hc⟩) hn ⟨g, o', ?_⟩))
  subst e
  refine T.bind (T.callSpecial sl hb hh ho hc hok (T.mono k fun fin h' q => ?_))
  cases fin with
  | done f => obtain ⟨v, rfl, q⟩ := q; exact ⟨v, rfl, T.pure q⟩
  | again c => exact ⟨q.1, CT.mono q.2 fun f h' q => by obtain ⟨v, rfl, q⟩ := q; exact ⟨v, rfl, T.pure q⟩⟩
theorem T.setItem {Ty id : String} {a : Addr} {o : Obj} {i v : Value} {b : Builtin} {Q : Unit → Heap → Prop} (hn : seqItemTypes.contains Ty = false) (sl : Slot Ty "__setitem__" id) (hb : entryFor table id = some b) (hh : Builtin.Bytes.decodersThatHold.contains id = false)
    (ho : h.get? a = some o) (hc : o.cls = .type Ty) (hok : argsOk id ⟨[.ref a, i, v], []⟩)
    (k : T (model prog w) os A.in1 (b ⟨[.ref a, i, v], []⟩) h (FinT (model prog w) os A fun f h' => ∃ v, f = .ret v ∧ Q () h')) : T (model prog w) os A (PySem.setItem (.ref a) i v) h Q := by
  unfold PySem.setItem
  refine T.holding (T.bind (T.any fun s e g o' => wpAny_sequenceKey (T := Ty) (show s.TypeIs (.ref a) Ty from ⟨o, by rw [e]; exact ho, hc⟩) hn ⟨g, o', ?_⟩))
  subst e
  refine T.bind (T.callSpecial sl hb hh ho hc hok (T.mono k fun fin h' q => ?_))
  cases fin with
  | done f => obtain ⟨v, rfl, q⟩ := q; exact ⟨v, rfl, T.pure q⟩
  | again c => exact ⟨q.1, CT.mono q.2 fun f h' q => by obtain ⟨v, rfl, q⟩ := q; exact ⟨v, rfl, T.pure q⟩⟩

theorem fits_small {k : Int} (h0 : 0 ≤ k) (h1 : k < 2 ^ 62) : Builtin.Bytes.fitsIndex k = true := by
  simp only [Builtin.Bytes.fitsIndex, Bool.and_eq_true, decide_eq_true_eq]; lia
theorem T.subscriptInt {k : Int} {t : Tok} {Q : Option Int → Heap → Prop} (h0 : 0 ≤ k) (h1 : k < 2 ^ 62) (q : Q (some k) h) : T (model prog w) os A (Builtin.Bytes.subscript? (.int k t)) h Q := by
  unfold Builtin.Bytes.subscript?
  refine T.bind (T.any fun s e g o => wpAny_specialOf (T := "int") (typeIs_int s k t) F.slot_int_index.lookup ⟨g, o, ?_⟩)
  subst e
  refine T.ite_false (by simp) ?_
  refine T.bind (T.eq (a := k) rfl ?_)
  refine T.ite_false (by rw [fits_small h0 h1]; simp) ?_
  exact T.pure q
/-- octets[k] -/
theorem T.baItem {a : Addr} {b : Array UInt8} {k : Int} {t : Tok} {x : UInt8} {Q : Value → Heap → Prop} (ho : h.get? a = some (baObj b)) (h0 : 0 ≤ k) (h1 : k < 2 ^ 62) (hx : b[k.toNat]? = some x) (q : ∀ t, Q (.int x.toNat t) h) :
    T (model prog w) os A (PySem.getItem (.ref a) (.int k t)) h Q := by
  refine T.getItem (by decide) BF.slot_getitem BF.entry_getitem (by decide +kernel) ho rfl (BF.args_getitem _ _) ?_
  show T _ _ _ (Builtin.Bytes.subscript? (.int k t) >>= _) _ _
  refine T.bind (T.subscriptInt h0 h1 ?_)
  dsimp only
  refine T.bind (T.payload ho ?_)
  have hl : k.toNat < b.size := by
    have := (Array.getElem?_eq_some_iff.mp hx).1
    exact this
  have e : seqIndex? k b.size = some k.toNat := by
    obtain ⟨j, rfl⟩ := Int.eq_ofNat_of_zero_le h0
    have h3 : j < b.size := hl
    simp [seqIndex?, h3, Int.not_lt.mpr h0]
  rw [e]
  show T _ _ _ (match b[k.toNat]? with | some x => _ | none => _) _ _
  rw [hx]
  show T _ _ _ (do let v ← PySem.mkInt x.toNat; ret v) _ _
  exact T.bind (T.mkInt fun t => T.pure ⟨_, rfl, q t⟩)
theorem T.checkFun {id : String} {args : Args} (hk : builtinKind id = none) (ha : argsOk id args) : T (model prog w) os A (checkBuiltinCall id args) h fun _ h' => h' = h := by
  simp only [checkBuiltinCall, hk]
  cases hsig : Manifest.signature? id with
  | none => exact T.pure rfl
  | some sig =>
    simp only [argsOk, hsig] at ha
    exact T.eq (a := ()) ha rfl
/-- a built-in function is called -/
theorem CT.callFun {id : String} {args : Args} {b : Builtin} {Q : Flow → Heap → Prop} (hk : builtinKind id = none) (hp : plainId id = true) (hb : entryFor table id = some b) (hh : Builtin.Bytes.decodersThatHold.contains id = false) (ha : argsOk id args)
    (k : T (model prog w) os A.in1 (b args) h (FinT (model prog w) os A Q)) : CT (model prog w) os A (.call (.builtin id) args) h Q :=
  CT.callBuiltin hp hb hh (T.checkFun hk ha) k
theorem CT.len {a : Addr} {o : Obj} {Ty id : String} {b : Builtin} {n : Nat} {Q : Flow → Heap → Prop} (ho : h.get? a = some o) (hc : o.cls = .type Ty) (sl : Slot Ty "__len__" id) (hb : entryFor table id = some b) (hh : Builtin.Bytes.decodersThatHold.contains id = false)
    (hok : argsOk id ⟨[.ref a], []⟩) (hn : n < 2 ^ 62) (k : T (model prog w) os A.in1.in1 (b ⟨[.ref a], []⟩) h (FinT (model prog w) os A.in1 fun f h' => h' = h ∧ ∃ t, f = .ret (.int n t))) (q : ∀ t, Q (.ret (.int n t)) h) :
    CT (model prog w) os A (.call (.builtin "len") ⟨[.ref a], []⟩) h Q := by
  refine CT.callFun kind_len plain_len entry_len (by decide +kernel) (args_len1 _) ?_
  unfold Builtin.«len»
  show T _ _ _ (callSpecial? (.ref a) "__len__" [] >>= _) _ _
  refine T.bind (T.callSpecial sl hb hh ho hc hok (T.mono k fun fin h' z => ?_))
  have fin' : ∀ t, T (model prog w) os A.in1 (do
      let n ← PySem.holding [.int n t] (asIndex (.int n t))
      letGo [.int n t]
      if n < 0 then PySem.rule "len.negative"; raiseError "ValueError" "__len__() should return >= 0"
      if n ≥ 2 ^ 63 then
        if let .ref _ := Value.int n t then unsupported "len:the-overflow's-words-name-the-type-of-what-__len__-gave"
        PySem.rule "len.overflow"; raiseError "OverflowError" "cannot fit 'int' into an index-sized integer"
      retInt n) h (FinT (model prog w) os A Q) := fun t => by
    refine T.bind (T.holding (T.eq (a := (n : Int)) rfl ?_))
    refine T.bind (T.any fun s e g o => ?_)
    subst e
    refine wpAny_letGo ⟨g, o, ?_⟩
    refine T.ite_false (by lia) ?_
    refine T.ite_false (by lia) ?_
    exact T.bind (T.mkInt fun t => T.pure (q t))
  cases fin with
  | done f => obtain ⟨rfl, t, rfl⟩ := z; exact ⟨_, rfl, fin' t⟩
  | again c => exact ⟨z.1, CT.mono z.2 fun f h' z => by obtain ⟨rfl, t, rfl⟩ := z; exact ⟨_, rfl, fin' t⟩⟩
theorem CT.len_ba {a : Addr} {b : Array UInt8} {Q : Flow → Heap → Prop} (ho : h.get? a = some (baObj b)) (hz : b.size < 2 ^ 62) (q : ∀ t, Q (.ret (.int b.size t)) h) : CT (model prog w) os A (.call (.builtin "len") ⟨[.ref a], []⟩) h Q := by
  refine CT.len ho rfl BF.slot_len BF.entry_len (by decide +kernel) (BF.args_len _) hz ?_ q
  show T _ _ _ (Builtin.Bytes.payload (.ref a) >>= _) _ _
  exact T.bind (T.payload ho (T.bind (T.mkInt fun t => T.pure ⟨rfl, t, rfl⟩)))
/-- a slice's parts -/
theorem T.slicePart {v : Value} {lo : Option Int} {Q : Value → Heap → Prop} (hv : IsPart v lo) (q : Q (rawPart lo) h) : T (model prog w) os A (do
    if v == .none then return .none
    if (← PySem.specialOf v "__index__").isNone then
      PySem.rule "bytes.slice.part-no-index"; raiseError "TypeError" "slice indices must be integers or None or have an __index__ method"
    return rawInt (← asIndex v)) h Q := by
  cases hv with
  | none => exact T.pure q
  | int i t =>
    refine T.ite_false (show ¬ ((Value.int i t == Value.none) = true) from Bool.false_ne_true) ?_
    refine T.bind (T.any fun s e g o => wpAny_specialOf (T := "int") (typeIs_int s i t) int_index ⟨g, o, ?_⟩)
    subst e
    refine T.ite_false (by simp) ?_
    exact T.bind (T.eq (a := i) rfl (T.pure q))
theorem T.sliceParts {sl : Addr} {vl vu : Value} {lo hi : Option Int} {Q : Value × Value × Value → Heap → Prop} (hs : h.IsSliceOf sl vl vu .none) (pl : IsPart vl lo) (pu : IsPart vu hi) (q : Q (rawPart lo, rawPart hi, .none) h) :
    T (model prog w) os A (Builtin.Bytes.sliceParts (.ref sl)) h Q := by
  obtain ⟨os', hos, hcs, hds⟩ := hs
  unfold Builtin.Bytes.sliceParts
  refine T.bind (T.field hos hds (i := 2) (v := .none) rfl ?_)
  refine T.bind (T.slicePart .none ?_)
  refine T.ite_false (show ¬ ((Value.none == rawInt 0) = true) from Bool.false_ne_true) ?_
  refine T.bind (T.field hos hds (i := 0) (v := vl) rfl ?_)
  refine T.bind (T.slicePart pl ?_)
  refine T.bind (T.field hos hds (i := 1) (v := vu) rfl ?_)
  exact T.bind (T.slicePart pu (T.pure q))
theorem T.subscriptSlice {sl : Addr} {vl vu vs : Value} {Q : Option Int → Heap → Prop} (hs : h.IsSliceOf sl vl vu vs) (q : Q none h) : T (model prog w) os A (Builtin.Bytes.subscript? (.ref sl)) h Q := by
  obtain ⟨os', hos, hcs, hds⟩ := hs
  unfold Builtin.Bytes.subscript?
  refine T.bind (T.specialOf hos hcs slice_no_index ?_)
  exact T.ite_true rfl (T.pure q)
/-- octets[lo:hi] -/
theorem T.baSlice {a sl : Addr} {b : Array UInt8} {vl vu : Value} {lo hi : Option Int} {Q : Value → Heap → Prop} (ho : h.get? a = some (baObj b)) (hs : h.IsSliceOf sl vl vu .none) (pl : IsPart vl lo) (pu : IsPart vu hi) (hz : b.size ≤ sizeLine)
    (q : Q (.ref h.objs.size) (h.push (baObj (KBy.picked b lo hi)))) : T (model prog w) os A (PySem.getItem (.ref a) (.ref sl)) h Q := by
  refine T.getItem (by decide) BF.slot_getitem BF.entry_getitem (by decide +kernel) ho rfl (BF.args_getitem _ _) ?_
  show T _ _ _ (Builtin.Bytes.subscript? (.ref sl) >>= _) _ _
  refine T.bind (T.subscriptSlice hs ?_)
  dsimp only
  obtain ⟨os', hos, hcs, hds⟩ := id hs
  refine T.bind (T.typeOfRef hos ?_)
  rw [hcs]
  refine T.ite_false (by decide) ?_
  refine T.bind (T.sliceParts hs pl pu ?_)
  refine T.bind (T.payload ho ?_)
  refine T.bind (T.eq (sliceIndices_raw lo hi none b.size (fun e => nomatch e)) ?_)
  refine T.bind (T.any fun s e g o => wpAny_newObj_type ⟨g, o, ?_⟩ ?_)
  · subst e
    exact T.pure ⟨_, rfl, q⟩
  · exact Nat.le_trans (KBc.size_picked_le b lo hi) hz
end
end Mine
set_option maxRecDepth 100000
namespace Mine
section
variable {prog : Program} {w : World} {A : Around} {os : OsState} {h : Heap}
theorem T.isInstanceBytes {b : Array UInt8} {t : Tok} {n : String} {r : Bool} {Q : Bool → Heap → Prop} (hs : isSubtype (.type "bytes") (.type n) = Pure.pure r) (q : Q r h) : T (model prog w) os A (PySem.isInstance (.bytes b t) (.type n)) h Q :=
  T.any fun s e g o => wpAny_isInstance (T := "bytes") (typeIs_bytes s b t) hs ⟨g, o, e ▸ q⟩
theorem T.specialBytes {b : Array UInt8} {t : Tok} {n : Str} {r : Option Value} {Q : Option Value → Heap → Prop} (hs : typeLookup (.type "bytes") n = Pure.pure r) (q : Q r h) : T (model prog w) os A (PySem.specialOf (.bytes b t) n) h Q :=
  T.any fun s e g o => wpAny_specialOf (T := "bytes") (typeIs_bytes s b t) hs ⟨g, o, e ▸ q⟩
noncomputable abbrev cutIn (x y : Nat) (new b : Array UInt8) : Array UInt8 := b.extract 0 x ++ new ++ b.extract y b.size
theorem T.setBytes {a sl : Addr} {b new : Array UInt8} {t : Tok} {vl vu : Value} {lo hi : Option Int} {x y : Nat} {Q : Unit → Heap → Prop} (hg : A.guards = some []) (ho : h.get? a = some (baObj b)) (hs : h.IsSliceOf sl vl vu .none) (pl : IsPart vl lo) (pu : IsPart vu hi)
    (hx : lo.elim 0 (clipAt b.size) = x) (hy : hi.elim b.size (clipAt b.size) = y) (hxy : x ≤ y) (hyb : y ≤ b.size) (hsz : new.size = y - x) (hz : b.size ≤ 16777216)
    (q : Q () ((h.push (baObj new)).update a (Obj.mapBytearray (cutIn x y new)))) : T (model prog w) os A (PySem.setItem (.ref a) (.ref sl) (.bytes new t)) h Q := by
  refine T.setItem (by decide) BF.slot_setitem BF.entry_setitem (by decide +kernel) ho rfl (BF.args_setitem _ _ _) ?_
  unfold Builtin.«bytearray.__setitem__»
  dsimp only
  refine T.ite_false (by decide) ?_
  refine T.bind (T.subscriptSlice hs ?_)
  dsimp only
  obtain ⟨os', hos, hcs, hds⟩ := id hs
  refine T.bind (T.typeOfRef hos ?_)
  rw [hcs]
  refine T.ite_false (by decide) ?_
  refine T.bind (T.sliceParts hs pl pu ?_)
  refine T.ite_false (show ¬ (false = true) by decide) ?_
  refine T.bind (T.isInstanceBytes BF.sub_bytes_ba ?_)
  refine T.ite_true (by decide) ?_
  refine T.bind (T.orNo (T.bind (T.specialBytes BF.bytes_index (T.pure ⟨rfl, T.orNo (T.bind (T.specialBytes BF.bytes_int (T.pure ⟨rfl, T.orNo (T.bind (T.specialBytes BF.bytes_float (T.pure ⟨rfl, T.isInstanceBytes BF.bytes_complex ?_⟩)))⟩)))⟩))))
  refine T.bind (T.eq (a := none) rfl ?_)
  refine T.ite_false (by decide) ?_
  refine T.bind (T.rule ?_)
  refine T.bind (T.callBa_bytes hg (by lia) ?_)
  have hs' : (h.push (baObj new)).IsSliceOf sl vl vu .none := ⟨os', Heap.get?_push_of_some _ hos, hcs, hds⟩
  refine T.bind (T.holding (T.sliceParts hs' pl pu ?_))
  refine T.bind (T.payload (get_push_self h (baObj new) rfl) ?_)
  refine T.bind (T.payload (Heap.get?_push_of_some _ ho) ?_)
  refine T.bind (T.eq (sliceIndices_raw lo hi none b.size (fun e => nomatch e)) ?_)
  rw [sliceBounds_plain, hx, hy]
  dsimp only
  refine T.ite_true (by decide) ?_
  refine T.bind (T.rule ?_)
  refine T.ite_false (by
    simp only [bne_iff_ne, ne_eq, Decidable.not_not]
    lia) ?_
  have e1 : ((x : Int)).toNat = x := Int.toNat_natCast x
  have e2 : (max (x : Int) (y : Int)).toNat = y := by lia
  rw [e1, e2]
  refine T.bind (T.write (Heap.get?_push_of_some _ ho) ?_ ?_)
  · simp only [Array.size_append, Array.size_extract, sizeLine_eq]
    lia
  · exact T.bind (T.pure (T.pure ⟨_, rfl, q⟩))
theorem T.setBa {a src sl : Addr} {b new : Array UInt8} {vl vu : Value} {lo hi : Option Int} {x y : Nat} {Q : Unit → Heap → Prop} (hne : a ≠ src) (ho : h.get? a = some (baObj b)) (hn : h.get? src = some (baObj new)) (hs : h.IsSliceOf sl vl vu .none) (pl : IsPart vl lo) (pu : IsPart vu hi)
    (hx : lo.elim 0 (clipAt b.size) = x) (hy : hi.elim b.size (clipAt b.size) = y) (hxy : x ≤ y) (hyb : y ≤ b.size) (hsz : new.size = y - x) (hz : b.size ≤ 16777216)
    (q : Q () (h.update a (Obj.mapBytearray (cutIn x y new)))) : T (model prog w) os A (PySem.setItem (.ref a) (.ref sl) (.ref src)) h Q := by
  refine T.setItem (by decide) BF.slot_setitem BF.entry_setitem (by decide +kernel) ho rfl (BF.args_setitem _ _ _) ?_
  unfold Builtin.«bytearray.__setitem__»
  dsimp only
  refine T.ite_false (by decide) ?_
  refine T.bind (T.subscriptSlice hs ?_)
  dsimp only
  obtain ⟨os', hos, hcs, hds⟩ := id hs
  refine T.bind (T.typeOfRef hos ?_)
  rw [hcs]
  refine T.ite_false (by decide) ?_
  refine T.bind (T.sliceParts hs pl pu ?_)
  refine T.ite_false (by simpa [Builtin.Bytes.sameRef] using hne) ?_
  refine T.bind (T.isInstance hn rfl BF.sub_self ?_)
  refine T.ite_false (by decide) ?_
  refine T.bind (T.payload hn ?_)
  refine T.bind (T.payload ho ?_)
  refine T.bind (T.eq (sliceIndices_raw lo hi none b.size (fun e => nomatch e)) ?_)
  rw [sliceBounds_plain, hx, hy]
  dsimp only
  refine T.ite_true (by decide) ?_
  refine T.bind (T.rule ?_)
  refine T.ite_false (by
    simp only [bne_iff_ne, ne_eq, Decidable.not_not]
    lia) ?_
  have e1 : ((x : Int)).toNat = x := Int.toNat_natCast x
  have e2 : (max (x : Int) (y : Int)).toNat = y := by lia
  rw [e1, e2]
  refine T.bind (T.write ho ?_ ?_)
  · simp only [Array.size_append, Array.size_extract, sizeLine_eq]
    lia
  · exact T.bind (T.pure (T.pure ⟨_, rfl, q⟩))
end
end Mine
set_option maxRecDepth 100000
namespace Mine
open PySem.Builtin.Struct in
noncomputable abbrev fmtOf (c : Char) (n : Nat) : Format := ⟨false, false, [⟨c, 1, 0, n⟩], n, 1⟩
noncomputable def chars : List (Char × UInt8 × Nat) := [('B', 66, 1), ('H', 72, 2), ('I', 73, 4), ('Q', 81, 8), ('i', 105, 4)]
theorem parse_eq {c : Char} {u : UInt8} {n : Nat} (hc : (c, u, n) ∈ chars) : Builtin.Struct.parse #[60, u] = Pure.pure (fmtOf c n) := by
  simp only [chars, List.mem_cons, Prod.mk.injEq, List.not_mem_nil, or_false] at hc
  rcases hc with ⟨rfl, rfl, rfl⟩ | ⟨rfl, rfl, rfl⟩ | ⟨rfl, rfl, rfl⟩ | ⟨rfl, rfl, rfl⟩ | ⟨rfl, rfl, rfl⟩ <;> kernel_rfl
noncomputable def leNat (bs : List UInt8) : Nat := bs.foldr (fun c n => n * 256 + c.toNat) 0
noncomputable def leInt (c : Char) (n : Nat) (bs : List UInt8) : Int := if c.isLower && leNat bs ≥ 2 ^ (8 * n - 1) then (leNat bs : Int) - 2 ^ (8 * n) else leNat bs
noncomputable def leBytes (n : Nat) (i : Int) : List UInt8 := (List.range n).map fun k => ((i % 2 ^ (8 * n)).toNat / 256 ^ k % 256).toUInt8
theorem natOf_eq (b : Array UInt8) : Builtin.Struct.natOf false b = leNat b.toList := by
  show Array.foldr _ _ _ = _
  unfold leNat
  rw [← Array.foldr_toList]
  rfl
theorem unpacked_eq {id : String} {c : Char} {u : UInt8} {n : Nat} (hc : (c, u, n) ∈ chars) (b : Array UInt8) (start : Nat) :
    Builtin.Struct.unpacked id (fmtOf c n) b start = (mkInt (if c.isLower && Builtin.Struct.natOf false (b.extract (start + 0 + 0 * n) (start + 0 + (0 + 1) * n)) ≥ 2 ^ (8 * n - 1) then (Builtin.Struct.natOf false (b.extract (start + 0 + 0 * n) (start + 0 + (0 + 1) * n)) : Int) - 2 ^ (8 * n) else Builtin.Struct.natOf false (b.extract (start + 0 + 0 * n) (start + 0 + (0 + 1) * n))) >>= fun v => newTuple [v]) := by
  simp only [chars, List.mem_cons, Prod.mk.injEq, List.not_mem_nil, or_false] at hc
  rcases hc with ⟨rfl, rfl, rfl⟩ | ⟨rfl, rfl, rfl⟩ | ⟨rfl, rfl, rfl⟩ | ⟨rfl, rfl, rfl⟩ | ⟨rfl, rfl, rfl⟩ <;> kernel_rfl
theorem foldl_size (raw : List UInt8) : ∀ (p k : Nat) (out : Array UInt8), ((raw.zipIdx k).foldl (fun out (x : UInt8 × Nat) => out.setIfInBounds (p + x.2) x.1) out).size = out.size := by
  induction raw with
  | nil => intro p k out; rfl
  | cons c cs ih => intro p k out; rw [List.zipIdx_cons, List.foldl_cons, ih]; simp
theorem foldl_place (raw : List UInt8) : ∀ (p k : Nat) (out : Array UInt8), p + k + raw.length ≤ out.size →
    ((raw.zipIdx k).foldl (fun out (x : UInt8 × Nat) => out.setIfInBounds (p + x.2) x.1) out).toList = out.toList.take (p + k) ++ raw ++ out.toList.drop (p + k + raw.length) := by
  induction raw with
  | nil => intro p k out h; simp
  | cons c cs ih =>
    intro p k out h
    rw [List.length_cons] at h
    rw [List.zipIdx_cons, List.foldl_cons, ih p (k + 1) _ (by simp; lia)]
    have hl : p + k < out.toList.length := by simp; lia
    have e : (out.setIfInBounds (p + k) c).toList = out.toList.set (p + k) c := by simp
    rw [e, List.length_cons]
    have e1 : (out.toList.set (p + k) c).take (p + (k + 1)) = out.toList.take (p + k) ++ [c] := by
      rw [show p + (k + 1) = p + k + 1 from by lia, List.take_add_one, List.take_set, List.getElem?_set_self hl]
      rw [List.set_eq_of_length_le (by simp; lia)]
      rfl
    have e2 : (out.toList.set (p + k) c).drop (p + (k + 1) + cs.length) = out.toList.drop (p + k + (cs.length + 1)) := by
      rw [List.drop_set_of_lt (by lia)]
      congr 1
      lia
    rw [e1, e2]
    simp

namespace SF
theorem pa : PlainAttrs "_struct.Struct" :=
  ⟨⟨"_struct.Struct.__getattribute__", by rw [typeLookup_type, builtinLookup_eq_fast]; kernel_rfl, by decide +kernel⟩, by rw [typeLookup_type, builtinLookup_eq_fast]; kernel_rfl⟩
theorem slot_unpack : Slot "_struct.Struct" "unpack_from" "_struct.Struct.unpack_from" :=
  .of (owner := "_struct.Struct") (n := "unpack_from") (by rw [typeLookup_type, builtinLookup_eq_fast]; kernel_rfl) (by decide +kernel) (by decide +kernel) (by decide +kernel)
    (by first | exact .inl (by decide +kernel) | exact .inr (by decide +kernel)) (by rw [isSubtype_type]; kernel_rfl)
theorem entry_unpack : entryFor table "_struct.Struct.unpack_from" = some Builtin.«_struct.Struct.unpack_from» := entryFor_of_tree (by kernel_rfl)
theorem args_unpack (a b c : Value) : argsOk "_struct.Struct.unpack_from" ⟨[a, b, c], []⟩ := by unfold argsOk; kernel_rfl
theorem ty_unpack : typeOf (.builtin "_struct.Struct.unpack_from") = pure (.type "method_descriptor") := by kernel_rfl
theorem slot_pack : Slot "_struct.Struct" "pack_into" "_struct.Struct.pack_into" :=
  .of (owner := "_struct.Struct") (n := "pack_into") (by rw [typeLookup_type, builtinLookup_eq_fast]; kernel_rfl) (by decide +kernel) (by decide +kernel) (by decide +kernel)
    (by first | exact .inl (by decide +kernel) | exact .inr (by decide +kernel)) (by rw [isSubtype_type]; kernel_rfl)
theorem entry_pack : entryFor table "_struct.Struct.pack_into" = some Builtin.«_struct.Struct.pack_into» := entryFor_of_tree (by kernel_rfl)
theorem args_pack (a b c d : Value) : argsOk "_struct.Struct.pack_into" ⟨[a, b, c, d], []⟩ := by unfold argsOk; kernel_rfl
theorem ty_pack : typeOf (.builtin "_struct.Struct.pack_into") = pure (.type "method_descriptor") := by kernel_rfl
theorem entry_held : entryFor table "_struct.pack_into.held" = some Builtin.«_struct.pack_into.held» := entryFor_of_tree (by kernel_rfl)
theorem bind2 (a b : Value) : Builtin.Bytes.bindOptional "_struct.Struct.unpack_from" "unpack_from" ["buffer", "offset"] [a, b] [] = pure [some a, some b] := by kernel_rfl
end SF
/-- a format object of the top -/
noncomputable def StAt (a : Addr) (c : Char) (n : Nat) : Prop := ∃ u tk, (c, u, n) ∈ chars ∧ ∀ P, recIn (hK P) a "_struct.Struct" = some [.bytes #[60, u] tk]
section
variable {prog : Program} {w : World} {A : Around} {os : OsState} {h : Heap}
theorem T.structFormat {a : Addr} {o : Obj} {u : UInt8} {tk : Tok} {c : Char} {n : Nat} {Q : Array UInt8 × Builtin.Struct.Format → Heap → Prop} (ho : h.get? a = some o) (hd : o.data = .fields #[.bytes #[60, u] tk]) (hc : (c, u, n) ∈ chars) (q : Q (#[60, u], fmtOf c n) h) :
    T (model prog w) os A (Builtin.Struct.structFormat (.ref a)) h Q := by
  unfold Builtin.Struct.structFormat
  refine T.bind (T.field ho hd (i := 0) (v := .bytes #[60, u] tk) rfl ?_)
  refine T.ite_false (show ¬ ((Value.bytes #[60, u] tk == Value.none) = true) from Bool.false_ne_true) ?_
  refine T.bind (T.eq (a := #[60, u]) rfl ?_)
  exact T.bind (T.eq (parse_eq hc) (T.pure q))
theorem T.tuple1 {v : Value} {Q : Value → Heap → Prop} (q : Q (.ref h.objs.size) (h.push { cls := .type "tuple", data := .seq #[v] })) : T (model prog w) os A (newTuple [v]) h Q := by
  unfold newTuple
  refine T.any fun s e g o => wpAny_newObj_type ⟨g, o, ?_⟩ ?_
  · subst e; exact q
  · show 1 ≤ sizeLine
    rw [sizeLine_eq]; lia
/-- what lends bytes, as it is -/
noncomputable def Lends (h : Heap) (v : Value) (b : Array UInt8) : Prop := (∃ t, v = .bytes b t) ∨ ∃ a, v = .ref a ∧ h.get? a = some (baObj b)
theorem T.bytesLike {id : String} {v : Value} {b : Array UInt8} {Q : Array UInt8 → Heap → Prop} (hl : Lends h v b) (q : Q b h) : T (model prog w) os A (Builtin.Bytes.bytesLike id v) h Q := by
  unfold Builtin.Bytes.bytesLike
  rcases hl with ⟨t, rfl⟩ | ⟨a, rfl, ho⟩
  · exact T.bind (T.eq KBy.buffer_eq (T.pure q))
  · exact T.bind (T.buffer ho (T.pure q))
theorem T.unpackFrom {a : Addr} {o : Obj} {u : UInt8} {tk t : Tok} {c : Char} {n : Nat} {v : Value} {b : Array UInt8} {k : Int} {Q : Value → Heap → Prop} (ho : h.get? a = some o) (hcl : o.cls = .type "_struct.Struct") (hd : o.data = .fields #[.bytes #[60, u] tk]) (hc : (c, u, n) ∈ chars)
    (hl : Lends h v b) (h0 : 0 ≤ k) (h1 : k.toNat + n ≤ b.size) (hz : b.size < 2 ^ 62)
    (q : ∀ t, Q (.ref h.objs.size) (h.push { cls := .type "tuple", data := .seq #[.int (leInt c n ((b.toList.drop k.toNat).take n)) t] })) : T (model prog w) os A (PySem.call (.builtin "_struct.Struct.unpack_from") [.ref a, v, .int k t]) h Q := by
  refine T.slotCall SF.slot_unpack SF.entry_unpack (by decide +kernel) ho hcl (SF.args_unpack _ _ _) ?_
  unfold Builtin.«_struct.Struct.unpack_from»
  dsimp only
  refine T.bind (T.eq (SF.bind2 _ _) ?_)
  dsimp only
  unfold Builtin.Struct.unpackFrom
  refine T.bind (T.bytesLike hl ?_)
  dsimp only
  have ix : T (model prog w) os A.in1 (Builtin.Bytes.indexHeld [v] (.int k t)) h fun r h' => r = k ∧ h' = h := by
    unfold Builtin.Bytes.indexHeld
    refine T.bind (T.eq (a := some k) rfl ?_)
    refine T.ite_true (by simp) ?_
    exact T.eq (a := k) rfl ⟨rfl, rfl⟩
  refine T.bind (T.mono ix fun r h' z => ?_)
  obtain ⟨rfl, rfl⟩ := z
  refine T.ite_false (by rw [fits_small h0 (by lia)]; simp) ?_
  refine T.bind (T.pure ?_)
  refine T.bind (T.bind (T.structFormat ho hd hc (T.pure ?_)))
  refine T.ite_true rfl ?_
  refine T.bind (T.bytesLike hl ?_)
  have hp : Builtin.Struct.placeIn "unpack_from" "unpacking" "not enough data to unpack" (fmtOf c n) b.size r = Pure.pure r.toNat := by
    unfold Builtin.Struct.placeIn
    rw [if_neg (show ¬ r < 0 by lia)]
    have e : (if r < 0 then r + (b.size : Int) else r) = r := if_neg (by lia)
    simp only [e]
    rw [if_neg (show ¬ ((b.size : Int) - r < ((fmtOf c n).size : Int)) by show ¬ ((b.size : Int) - r < (n : Int)); lia)]
  refine T.bind (T.eq hp ?_)
  rw [unpacked_eq hc]
  refine T.bind (T.bind (T.mkInt fun t => T.tuple1 (T.pure ⟨_, rfl, ?_⟩)))
  have key := q t
  have e1 : Builtin.Struct.natOf false (b.extract (r.toNat + 0 + 0 * n) (r.toNat + 0 + (0 + 1) * n)) = leNat ((b.toList.drop r.toNat).take n) := by
    rw [natOf_eq, Array.toList_extract]
    simp
  rw [e1]
  exact key
end
end Mine
set_option maxRecDepth 100000
namespace Mine
noncomputable def loC (c : Char) (n : Nat) : Int := if c.isLower then -(2 ^ (8 * n - 1)) else 0
noncomputable def hiC (c : Char) (n : Nat) : Int := (if c.isLower then 2 ^ (8 * n - 1) else 2 ^ (8 * n)) - 1
/-- the octets with a row of new ones in their midst -/
noncomputable def putAt (b : List UInt8) (p : Nat) (raw : List UInt8) : List UInt8 := b.take p ++ raw ++ b.drop (p + raw.length)
theorem putAt_length {b raw : List UInt8} {p : Nat} (h : p + raw.length ≤ b.length) : (putAt b p raw).length = b.length := by
  unfold putAt
  simp
  lia
theorem putAt_putAt {b r s : List UInt8} {p : Nat} (h : p + r.length ≤ b.length) (e : r.length = s.length) : putAt (putAt b p r) p s = putAt b p s := by
  unfold putAt
  have h1 : (b.take p).length = p := by simp; lia
  have e1 : (b.take p ++ r ++ b.drop (p + r.length)).take p = b.take p := by
    rw [List.append_assoc, List.take_append_of_le_length (by lia), List.take_of_length_le (by lia)]
  have e2 : (b.take p ++ r ++ b.drop (p + r.length)).drop (p + s.length) = b.drop (p + s.length) := by
    rw [List.drop_append_of_le_length (by simp; lia), List.drop_of_length_le (by simp; lia), e, List.nil_append]
  rw [e1, e2]
theorem intBytes_eq (n : Nat) (i : Int) : (Builtin.Struct.intBytes false n i).toList = leBytes n i := rfl
theorem leBytes_length (n : Nat) (i : Int) : (leBytes n i).length = n := by simp [leBytes]
section
variable {prog : Program} {w : World} {A : Around} {os : OsState} {h : Heap}
theorem place_to {raw out : Array UInt8} {p : Nat} (hp : p + raw.size ≤ out.size) : raw.toList.zipIdx.foldl (fun out (x : UInt8 × Nat) => out.setIfInBounds (p + x.2) x.1) out = (putAt out.toList p raw.toList).toArray := by
  rw [← Array.toArray_toList (xs := raw.toList.zipIdx.foldl (fun out (x : UInt8 × Nat) => out.setIfInBounds (p + x.2) x.1) out)]
  rw [foldl_place raw.toList p 0 out (by simpa using hp)]
  rfl
theorem update_congr {a : Addr} {o : Obj} {f g : Obj → Obj} (ho : h.get? a = some o) (e : f o = g o) : h.update a f = h.update a g := by
  obtain ⟨objs, l⟩ := h
  simp only [Heap.update, Heap.mk.injEq, and_true]
  have e' : objs[a]? = some o := by
    unfold Heap.get? at ho
    split at ho
    · cases ho
    · exact ho
  apply Array.ext
  · simp
  · intro i h1 h2
    simp only [Array.getElem_modify]
    split
    · rename_i q
      subst q
      have h3 : a < objs.size := by simpa using h1
      rw [Array.getElem?_eq_getElem h3] at e'
      rw [Option.some.inj e', e]
    · rfl
theorem T.packHeld {id : String} {c : Char} {u : UInt8} {n : Nat} {a : Addr} {b : Array UInt8} {k i : Int} {t t' : Tok} {Q : PySem.Fin → Heap → Prop} (hc : (c, u, n) ∈ chars) (ho : h.get? a = some (baObj b)) (h0 : 0 ≤ k) (h1 : k.toNat + n ≤ b.size) (hz : b.size ≤ 16777216)
    (hlo : loC c n ≤ i) (hhi : i ≤ hiC c n) (q : ∀ h1 h2, h1 = h.update a (Obj.mapBytearray fun _ => (putAt b.toList k.toNat (List.replicate n 0)).toArray) → h2 = h1.update a (Obj.mapBytearray fun _ => (putAt b.toList k.toNat (leBytes n i)).toArray) → Q (.done (.ret .none)) h2) :
    T (model prog w) os A (Builtin.Struct.packHeld id (fmtOf c n) (.ref a) 0 b.size (.int k t) [.int i t']) h Q := by
  unfold Builtin.Struct.packHeld
  refine T.bind (T.eq (a := k) rfl ?_)
  refine T.ite_false (by rw [fits_small h0 (by lia)]; simp) ?_
  have hp : Builtin.Struct.placeIn "pack_into" "packing" "no space to pack" (fmtOf c n) b.size k = Pure.pure k.toNat := by
    unfold Builtin.Struct.placeIn
    rw [if_neg (show ¬ k < 0 by lia)]
    have e : (if k < 0 then k + (b.size : Int) else k) = k := if_neg (by lia)
    simp only [e]
    rw [if_neg (show ¬ ((b.size : Int) - k < ((fmtOf c n).size : Int)) by show ¬ ((b.size : Int) - k < (n : Int)); lia)]
  refine T.bind (T.eq hp ?_)
  rw [Nat.zero_add]
  have sz : ∀ (raw : Array UInt8), (raw.toList.zipIdx.foldl (fun out (x : UInt8 × Nat) => out.setIfInBounds (k.toNat + x.2) x.1) b).size = b.size := fun raw => foldl_size raw.toList _ 0 b
  refine T.bind (T.write ho (show (List.foldl (fun out (x : UInt8 × Nat) => out.setIfInBounds (k.toNat + x.2) x.1) b ((Array.replicate n (0 : UInt8)).toList.zipIdx)).size ≤ sizeLine by rw [sz, sizeLine_eq]; lia) ?_)
  have ho1 := Heap.get?_update_self (h := h) (Obj.mapBytearray fun b => List.foldl (fun out (x : UInt8 × Nat) => out.setIfInBounds (k.toNat + x.2) x.1) b ((Array.replicate n (0 : UInt8)).toList.zipIdx)) ho rfl
  unfold Builtin.Struct.packEach
  have fin : ∀ {raw : Array UInt8} {t : Sem PySem.Fin}, raw = Builtin.Struct.intBytes false n i → T (model prog w) os A (Builtin.Bytes.write (.ref a) (fun out => raw.toList.zipIdx.foldl (fun out (x : UInt8 × Nat) => out.setIfInBounds ((k.toNat + 0) + x.2) x.1) out))
      (h.update a (Obj.mapBytearray fun b => List.foldl (fun out (x : UInt8 × Nat) => out.setIfInBounds (k.toNat + x.2) x.1) b ((Array.replicate n (0 : UInt8)).toList.zipIdx))) fun _ h' => Q (.done (.ret .none)) h' := by
    intro raw t hr
    subst hr
    have hsz : (Builtin.Struct.intBytes false n i).size = n := by
      rw [← Array.length_toList, intBytes_eq, leBytes_length]
    have hz0 : (Array.replicate n (0 : UInt8)).size = n := by simp
    have e0 := place_to (raw := Array.replicate n (0 : UInt8)) (out := b) (p := k.toNat) (by rw [hz0]; exact h1)
    refine T.write ho1 (by rw [foldl_size, sz, sizeLine_eq]; lia) ?_
    have e1 : Obj.mapBytearray (fun b => List.foldl (fun out (x : UInt8 × Nat) => out.setIfInBounds (k.toNat + x.2) x.1) b ((Array.replicate n (0 : UInt8)).toList.zipIdx)) (baObj b) = baObj (putAt b.toList k.toNat (List.replicate n 0)).toArray := by
      show baObj _ = _
      simp only []
      rw [e0]
      simp
    have ee : h.update a (Obj.mapBytearray fun b => List.foldl (fun out (x : UInt8 × Nat) => out.setIfInBounds (k.toNat + x.2) x.1) b ((Array.replicate n (0 : UInt8)).toList.zipIdx)) = h.update a (Obj.mapBytearray fun _ => (putAt b.toList k.toNat (List.replicate n 0)).toArray) := update_congr ho e1
    rw [ee]
    refine q _ _ rfl (update_congr (Heap.get?_update_self (h := h) (Obj.mapBytearray fun _ => (putAt b.toList k.toNat (List.replicate n 0)).toArray) ho rfl) ?_)
    show baObj _ = baObj _
    simp only []
    rw [Nat.add_zero, place_to (by rw [hsz, List.size_toArray, putAt_length (by simpa using h1)]; simpa using h1), intBytes_eq]
    rw [show (putAt b.toList k.toNat (List.replicate n 0)).toArray.toList = putAt b.toList k.toNat (List.replicate n 0) from rfl]
    rw [putAt_putAt (by simpa using h1) (by rw [leBytes_length]; simp)]
  have hr : ¬ ((decide (i < loC c n) || decide (i > hiC c n)) = true) := by simp; lia
  simp only [chars, List.mem_cons, Prod.mk.injEq, List.not_mem_nil, or_false] at hc
  rcases hc with ⟨rfl, rfl, rfl⟩ | ⟨rfl, rfl, rfl⟩ | ⟨rfl, rfl, rfl⟩ | ⟨rfl, rfl, rfl⟩ | ⟨rfl, rfl, rfl⟩
  all_goals
    refine T.bind (T.bind ?_)
    rw [List.forIn_cons]
    refine T.bind ?_
    dsimp only
    refine T.ite_false (by decide) ?_
    refine T.ite_false (by decide) ?_
    refine T.bind ?_
    rw [Std.Legacy.Range.forIn_eq_forIn_range']
    show T _ _ _ (forIn [0] _ _) _ _
    rw [List.forIn_cons]
    refine T.bind ?_
    dsimp only
    refine T.bind (T.eq (a := Builtin.Struct.intBytes false _ i) (Eq.trans (show _ = ite ((decide (i < loC _ _) || decide (i > hiC _ _)) = true) _ _ from rfl) (if_neg hr)) ?_)
    refine T.bind (T.mono (fin (t := ret .none) rfl) fun _ h' z => ?_)
    exact T.pure (T.pure (T.pure (T.pure (T.pure (T.pure z)))))

theorem T.packInto {a x : Addr} {o : Obj} {u : UInt8} {tk t t' : Tok} {c : Char} {n : Nat} {b : Array UInt8} {k i : Int} {Q : Value → Heap → Prop} (hx : h.get? x = some o) (hcl : o.cls = .type "_struct.Struct") (hd : o.data = .fields #[.bytes #[60, u] tk]) (hc : (c, u, n) ∈ chars)
    (ho : h.get? a = some (baObj b)) (h0 : 0 ≤ k) (h1 : k.toNat + n ≤ b.size) (hz : b.size ≤ 16777216) (hlo : loC c n ≤ i) (hhi : i ≤ hiC c n)
    (q : ∀ h1 h2, h1 = h.update a (Obj.mapBytearray fun _ => (putAt b.toList k.toNat (List.replicate n 0)).toArray) → h2 = h1.update a (Obj.mapBytearray fun _ => (putAt b.toList k.toNat (leBytes n i)).toArray) → Q .none h2) :
    T (model prog w) os A (PySem.call (.builtin "_struct.Struct.pack_into") [.ref x, .ref a, .int k t, .int i t']) h Q := by
  refine T.slotCall SF.slot_pack SF.entry_pack (by decide +kernel) hx hcl (SF.args_pack _ _ _ _) ?_
  unfold Builtin.«_struct.Struct.pack_into»
  refine T.bind (T.eq (a := ()) rfl ?_)
  dsimp only
  refine T.bind (T.structFormat hx hd hc ?_)
  refine T.bind (T.field hx hd (i := 0) (v := .bytes #[60, u] tk) rfl ?_)
  unfold Builtin.Struct.packInto
  refine T.ite_false (show ¬ ((3 != 1 + 2) = true) by decide) ?_
  dsimp only
  refine T.bind (T.specialOf ho rfl BF.look_buffer ?_)
  refine T.bind (T.payload ho (T.pure ?_))
  refine ⟨Code.quiet_builtin _ (by decide +kernel), CT.builtin SF.entry_held (by decide +kernel) ?_⟩
  unfold Builtin.«_struct.pack_into.held»
  refine T.bind (T.eq (a := #[60, u]) rfl ?_)
  refine T.bind (T.eq (parse_eq hc) ?_)
  exact T.packHeld hc ho h0 h1 hz hlo hhi fun h1 h2 e1 e2 => ⟨_, rfl, q h1 h2 e1 e2⟩
end
end Mine
set_option maxRecDepth 100000
namespace Mine
namespace BF
theorem ba_bytes : typeLookup (.type "bytearray") "__bytes__" = pure none := by rw [typeLookup_type, builtinLookup_eq_fast]; kernel_rfl
theorem ba_index : typeLookup (.type "bytearray") "__index__" = pure none := by rw [typeLookup_type, builtinLookup_eq_fast]; kernel_rfl
theorem bytes_bytes : typeLookup (.type "bytes") "__bytes__" = pure (some (.builtin "bytes.__bytes__")) := by rw [typeLookup_type, builtinLookup_eq_fast]; kernel_rfl
end BF
section
variable {prog : Program} {w : World} {A : Around} {os : OsState} {h : Heap}
theorem T.callBytes {v : Value} {b : Array UInt8} {Q : Value → Heap → Prop} (hl : Lends h v b) (hz : b.size ≤ sizeLine) (q : ∀ t, Q (.bytes b t) h) : T (model prog w) os A (PySem.call (.type "bytes") [v]) h Q := by
  have ft := F.bm_called
  obtain ⟨c, tl, hmro⟩ := ft.mro
  have hnew : CT (model prog w) os A.in1 (.call (.builtin "bytes.__new__") ⟨[.type "bytes", v], []⟩) h fun f h' => h' = h ∧ ∃ t, f = .ret (.bytes b t) := by
    refine CT.callBuiltin F.bm_plain F.bm_entry (by decide +kernel) (T.eq (a := ()) (F.bm_newCall v) rfl) ?_
    unfold Builtin.«bytes.__new__»
    dsimp only
    refine T.bind (T.eq (a := true) (by kernel_rfl) ?_)
    refine T.ite_false (by decide) ?_
    refine T.bind (T.eq F.bm_sub ?_)
    refine T.ite_false (by decide) ?_
    refine T.bind (T.eq (F.bm_bind v) ?_)
    refine T.bind (T.eq (a := ()) rfl ?_)
    refine T.bind (T.eq (a := ()) rfl ?_)
    refine T.ite_false (by decide) ?_
    rcases hl with ⟨t, rfl⟩ | ⟨a, rfl, ho⟩
    · refine T.bind (T.specialBytes BF.bytes_bytes ?_)
      refine T.bind (T.rule ?_)
      refine T.bind (T.eq (a := .type "bytes") rfl ?_)
      refine T.ite_true (by decide) ?_
      exact T.pure ⟨rfl, t, rfl⟩
    · refine T.bind (T.specialOf ho rfl BF.ba_bytes ?_)
      dsimp only
      refine T.bind (T.bind (T.bind (T.load ho (T.pure (T.pure ?_)))))
      refine T.ite_false (by decide) ?_
      refine T.bind (T.specialOf ho rfl BF.ba_index ?_)
      refine T.ite_true (by decide) ?_
      refine T.bind (T.buffer ho ?_)
      dsimp only
      refine T.bind (T.rule ?_)
      refine T.bind (T.any fun s e g o => wpAny_mkBytes ⟨g, o, ?_⟩ hz)
      subst e
      exact T.pure ⟨rfl, _, rfl⟩
  refine T.call (CT.tree rfl ?_)
  show T _ _ _ (callAny (.type "bytes") _) _ _
  refine T.pure ⟨Code.quiet_builtin _ (by decide +kernel), CT.builtin F.entry_type_call (by decide +kernel) ?_⟩
  rw [Around.under_plain (weight_type_call_type "bytes" [v] []) (units_type_call_type "bytes" [v] [])]
  have h1 := ft.notType
  have h2 := ft.canCreate
  unfold Builtin.«type.__call__»
  dsimp only
  rw [h1]
  refine T.ite_false Bool.false_ne_true ?_
  refine T.ite_false (by rw [h2]; exact Bool.false_ne_true) ?_
  refine T.bind (T.eq (F.bm_typeCall v) ?_)
  refine T.bind (T.eq hmro ?_)
  refine T.ite_false Bool.false_ne_true ?_
  refine T.bind (T.eq ft.made ?_)
  refine T.bind (T.pure ?_)
  refine T.bind (T.holding (T.call (CT.mono hnew fun f h' x => ?_)))
  obtain ⟨rfl, t, rfl⟩ := x
  refine ⟨_, rfl, ?_⟩
  refine T.bind (T.isInstanceBytes F.bm_sub ?_)
  refine T.ite_false Bool.false_ne_true ?_
  refine T.bind (T.holding ?_)
  unfold callSpecial?
  refine T.bind (T.specialBytes ft.init.lookup ?_)
  refine T.holding (T.bind (T.eq (ft.init.bind _) ?_))
  refine T.bind (T.any fun s e g o => ?_)
  refine call_meets ft.init (PySem.W.typeIs_bytes _ _ _) F.entry_object_init (F.args_object_init_2 _ _) (object_init_meets ft.init.lookup ft.made (by decide)) ⟨PySem.W.typeIs_bytes _ _ _, g, o, ?_⟩
  rw [e]
  exact T.pure (T.pure ⟨_, rfl, q t⟩)
end
section
variable {d : Nat}
theorem FnOK.of {fv : Value} {F : Fn} (k : ∀ {prog : Program} {w : World} {os : OsState} {h₀ : Heap} {A : Around} {ρ : List Addr} {σ : AH} {h : Heap} {args : List AV} {vs : List Value} {c : AV} {σ' : AH},
    Base w h₀ → Cond d A → Rep h₀ ρ σ h → VRels ρ args vs → F args σ = some (c, σ') → T (model prog w) os A (PySem.call fv vs) h fun v h' => VP h₀ ρ h c σ' v h') : FnOK d fv [] F := by
  intro prog w os h₀ A ρ σ h args ps ks c σ' B C R hz r hkn e
  have hks : ks = [] := List.eq_nil_of_length_eq_zero hkn
  subst hks
  rw [List.append_nil] at r
  exact k B C R r e
theorem vrels1 {ρ : List Addr} {a : AV} {vs : List Value} (r : VRels ρ [a] vs) : ∃ v, vs = [v] ∧ VRel ρ a v := by
  match vs, r with
  | [v], r => exact ⟨v, rfl, r.1⟩
theorem vrels2 {ρ : List Addr} {a b : AV} {vs : List Value} (r : VRels ρ [a, b] vs) : ∃ v w, vs = [v, w] ∧ VRel ρ a v ∧ VRel ρ b w := by
  match vs, r with
  | [v, w], r => exact ⟨v, w, rfl, r.1, r.2.1⟩
theorem vrels3 {ρ : List Addr} {a b c : AV} {vs : List Value} (r : VRels ρ [a, b, c] vs) : ∃ v w x, vs = [v, w, x] ∧ VRel ρ a v ∧ VRel ρ b w ∧ VRel ρ c x := by
  match vs, r with
  | [v, w, x], r => exact ⟨v, w, x, rfl, r.1, r.2.1, r.2.2.1⟩
theorem vrels4 {ρ : List Addr} {a b c e : AV} {vs : List Value} (r : VRels ρ [a, b, c, e] vs) : ∃ v w x y, vs = [v, w, x, y] ∧ VRel ρ a v ∧ VRel ρ b w ∧ VRel ρ c x ∧ VRel ρ e y := by
  match vs, r with
  | [v, w, x, y], r => exact ⟨v, w, x, y, rfl, r.1, r.2.1, r.2.2.1, r.2.2.2.1⟩
/-- int(..) -/
noncomputable def fInt : Fn := fun args σ => match args with
  | [.int x] => some (.int x, σ)
  | _ => none
theorem okInt : FnOK d (.type "int") [] fInt := FnOK.of fun {prog w os h₀ A ρ σ h args vs c σ'} B C R r e => by
  unfold fInt at e
  split at e
  · cases e
    obtain ⟨v, rfl, r1⟩ := vrels1 r
    obtain ⟨t, rfl⟩ := r1
    exact T.any fun s e g o => by subst e; exact call_int_int ⟨g, o, VP.here R rfl ⟨t, rfl⟩⟩
  · cases e
/-- the octets that a value lends -/
noncomputable def lends (a : AV) (σ : AH) : Option (List UInt8) := match a with
  | .bytes b => some b
  | .obj i => match σ[i]? with
    | some (.ba b) => some b
    | _ => none
  | _ => none
theorem lends_rel {h₀ h : Heap} {ρ : List Addr} {σ : AH} {a : AV} {v : Value} {b : List UInt8} (R : Rep h₀ ρ σ h) (r : VRel ρ a v) (e : lends a σ = some b) : Lends h v b.toArray := by
  unfold lends at e
  split at e
  · cases e
    obtain ⟨t, rfl⟩ := r
    exact .inl ⟨t, rfl⟩
  · split at e
    · rename_i q
      cases e
      obtain ⟨x, hx, rfl⟩ := r
      obtain ⟨o, ho, ro⟩ := R.get q hx
      rw [show o = _ from ro] at ho
      exact .inr ⟨x, rfl, ho⟩
    · cases e
  · cases e
/-- bytes(..) -/
noncomputable def fBytes : Fn := fun args σ => match args with
  | [a] => (lends a σ).bind fun b => if b.length ≤ 16777216 then some (.bytes b, σ) else none
  | _ => none
theorem okBytes : FnOK d (.type "bytes") [] fBytes := FnOK.of fun {prog w os h₀ A ρ σ h args vs c σ'} B C R r e => by
  unfold fBytes at e
  split at e
  · obtain ⟨b, e1, e⟩ := Option.bind_eq_some_iff.mp e
    split at e
    · cases e
      obtain ⟨v, rfl, r1⟩ := vrels1 r
      exact T.callBytes (lends_rel R r1 e1) (by rw [sizeLine_eq]; simp; lia) fun t => VP.here R rfl ⟨t, rfl⟩
    · cases e
  · cases e
/-- bytearray(..) -/
noncomputable def fBa : Fn := fun args σ => match args with
  | [.int n] => if 0 ≤ n ∧ n ≤ 16777216 then some (.obj σ.length, σ ++ [.ba (List.replicate n.toNat 0)]) else none
  | [.bytes b] => if b.length ≤ 16777216 then some (.obj σ.length, σ ++ [.ba b]) else none
  | _ => none
theorem VP.new {h₀ h : Heap} {ρ : List Addr} {σ : AH} {ao : AO} {o : Obj} (R : Rep h₀ ρ σ h) (r : ORel (ρ ++ [h.objs.size]) ao o) (hf : o.isFreed = false) : VP h₀ ρ h (.obj σ.length) (σ ++ [ao]) (.ref h.objs.size) (h.push o) :=
  ⟨_, Ext.push o, R.push R.base r hf, _, R.newAt, rfl⟩
theorem okBa : FnOK d (.type "bytearray") [] fBa := FnOK.of fun {prog w os h₀ A ρ σ h args vs c σ'} B C R r e => by
  unfold fBa at e
  split at e
  · split at e
    · rename_i hn
      cases e
      obtain ⟨v, rfl, r1⟩ := vrels1 r
      obtain ⟨t, rfl⟩ := r1
      refine T.callBa_int C.guards hn.1 hn.2 (VP.new R ?_ rfl)
      show baObj _ = baObj _
      simp
    · cases e
  · split at e
    · rename_i hn
      cases e
      obtain ⟨v, rfl, r1⟩ := vrels1 r
      obtain ⟨t, rfl⟩ := r1
      exact T.callBa_bytes C.guards (by simpa using hn) (VP.new R rfl rfl)
    · cases e
  · cases e
/-- len(..) -/
noncomputable def fLen : Fn := fun args σ => match args with
  | [a] => match lends a σ with
    | some b => if b.length < 4611686018427387904 then some (.int b.length, σ) else none
    | none => match a with
      | .obj i => match σ[i]? with
        | some (.list _ xs) => if xs.length < 4611686018427387904 then some (.int xs.length, σ) else none
        | _ => none
      | _ => none
  | _ => none
theorem okLen : FnOK d (.builtin "len") [] fLen := FnOK.of fun {prog w os h₀ A ρ σ h args vs c σ'} B C R r e => by
  unfold fLen at e
  split at e
  · obtain ⟨v, rfl, r1⟩ := vrels1 r
    split at e
    · rename_i b e1
      split at e
      · rename_i hn
        cases e
        rcases lends_rel R r1 e1 with ⟨t, rfl⟩ | ⟨a, rfl, ho⟩
        · refine T.any fun s e g o => ?_
          subst e
          refine call_len_gives (n := (b.toArray.size : Int)) (PySem.W.typeIs_bytes _ _ _) FB.slot_bytes_len FB.entry_bytes_len (FB.args_bytes_len_1 _) (gives_bytes_len _ _) (by lia) (by simp; lia) ⟨g, o, VP.here R rfl ⟨_, by simp; rfl⟩⟩
        · exact T.call (CT.len_ba ho (by simpa using hn) fun t => ⟨_, rfl, VP.here R rfl ⟨t, by simp⟩⟩)
      · cases e
    · split at e
      · split at e
        · rename_i xs q
          split at e
          · rename_i hn
            cases e
            obtain ⟨x, hx, rfl⟩ := r1
            obtain ⟨o, ho, hc, _, n, us, hd, ru⟩ := R.get q hx
            refine T.any fun s e g o' => ?_
            subst e
            have hl := ru.length
            exact PySem.Calls.call_len_list (items := us.toArray) ⟨o, ho, hc, n, hd⟩ (by simp; lia) ⟨g, o', VP.here R rfl ⟨_, by simp [hl]; rfl⟩⟩
          · cases e
        · cases e
      · cases e
  · cases e
/-- min(.., ..) -/
noncomputable def fMin : Fn := fun args σ => match args with
  | [.int a, .int b] => some (.int (if b < a then b else a), σ)
  | _ => none
theorem okMin : FnOK d (.builtin "min") [] fMin := FnOK.of fun {prog w os h₀ A ρ σ h args vs c σ'} B C R r e => by
  unfold fMin at e
  split at e
  · cases e
    obtain ⟨v, w', rfl, r1, r2⟩ := vrels2 r
    obtain ⟨t, rfl⟩ := r1
    obtain ⟨u, rfl⟩ := r2
    refine T.any fun s e g o => ?_
    subst e
    refine min_two_ints C.handled fun h' tk k => ⟨g, o, ρ, Ext.grown k, R.grown k, ?_⟩
    split
    · exact ⟨_, rfl⟩
    · exact ⟨_, rfl⟩
  · cases e
end
end Mine
set_option maxRecDepth 100000
namespace Mine
section
variable {prog : Program} {w : World} {A : Around} {os : OsState} {h : Heap}
/-- a type whose __getitem__ is built in -/
noncomputable def ItemTy (h : Heap) (v : Value) : Prop := v ≠ .builtin "sys.modules#opaque" ∧ ∃ T id, (∀ s : Shared, s.heap = h → s.TypeIs v T) ∧ typeLookup (.type T) "__getitem__" = pure (some (.builtin id))
theorem ItemTy.ref {a : Addr} {o : Obj} {T id : String} (ho : h.get? a = some o) (hc : o.cls = .type T) (hl : typeLookup (.type T) "__getitem__" = pure (some (.builtin id))) : ItemTy h (.ref a) :=
  ⟨fun e => (nomatch e), T, id, fun s e => ⟨o, by rw [e]; exact ho, hc⟩, hl⟩
theorem T.subTail {value slice : Expr} {o i : Value} {Q : Value → Heap → Prop} (ht : ItemTy h o) (k : T (model prog w) os A (PySem.getItem o i) h Q) : T (model prog w) os A (subscriptTail value slice o i) h Q := by
  obtain ⟨hne, Ty, id, hT, hl⟩ := ht
  have gp : T (model prog w) os A (getitemInPython o) h fun b h' => b = false ∧ h' = h := by
    rw [getitemInPython_of_ne hne]
    refine T.bind (T.any fun s e g o' => wpAny_specialOf (hT s e) hl ⟨g, o', ?_⟩)
    subst e
    exact T.pure ⟨rfl, rfl⟩
  unfold subscriptTail
  refine T.bind (T.mono gp fun b h' z => ?_)
  obtain ⟨rfl, rfl⟩ := z
  refine T.bind ?_
  have fin : T (model prog w) os A (PySem.getItem o i) h' fun r h₂ => T (model prog w) os A (do letTemporaryGo value o r; Pure.pure r) h₂ Q := T.mono k fun r h₂ q => T.bind (T.letGo (T.pure q))
  unfold subscripted
  split
  · exact T.operate fin
  · rename_i hh; cases hh
  · exact T.operate fin
end
section
variable {fi : FI} {d : Nat}
/-- o[i] -/
noncomputable def GetOK (d : Nat) (sem : AV → AV → AH → Option (AV × AH)) : Prop :=
  ∀ ⦃prog : Program⦄ {w : World} {os : OsState} {h₀ : Heap} {A : Around} {ρ : List Addr} {σ : AH} {h : Heap} {a b c : AV} {va vb : Value} {σ' : AH},
    Base w h₀ → Cond d A → Rep h₀ ρ σ h → VRel ρ a va → VRel ρ b vb → sem a b σ = some (c, σ') → ItemTy h va ∧ T (model prog w) os A (PySem.getItem va vb) h (VP h₀ ρ h c σ')
theorem EvOK.sub {f g : Ev} {l r : Expr} {p : Pos} {sem : AV → AV → AH → Option (AV × AH)} (ho : GetOK d sem) (hf : EvOK fi d f l) (hg : EvOK fi d g r) : EvOK fi d (eBin sem f g) (.Subscript l r p) := by
  intro prog w os h₀ A ρ σ h L m vars a σ' B C ok S e
  unfold eBin at e
  obtain ⟨⟨a1, σ₁⟩, e1, e⟩ := Option.bind_eq_some_iff.mp e
  obtain ⟨⟨a2, σ₂⟩, e2, e⟩ := Option.bind_eq_some_iff.mp e
  rw [eval_Subscript]
  refine T.two (k := fun a b => do standAt p; subscriptTail l r a b) (p := Option.none) hf hg B C ok S e1 e2 fun va vb ρ₂ h₂ x S₂ r1 r2 => ?_
  obtain ⟨it, k⟩ := ho (prog := prog) (os := os) B C S₂.rep r1 r2 e
  exact T.bind (T.standAt (T.subTail it (T.mono k fun v h' k => VP.trans x k)))
noncomputable def gItem : AV → AV → AH → Option (AV × AH) := fun a b σ => match b with
  | .int k => if 0 ≤ k ∧ k < 4611686018427387904 then (match lends a σ with
      | some bs => (bs[k.toNat]?).map fun u => (.int u.toNat, σ)
      | none => match a with
        | .obj i => match σ[i]? with
          | some (.list _ xs) => (xs[k.toNat]?).map fun x => (x, σ)
          | some (.tup xs) => (xs[k.toNat]?).map fun x => (x, σ)
          | _ => none
        | _ => none) else none
  | _ => none
theorem seqIdx {k : Int} {n : Nat} (h0 : 0 ≤ k) (hl : k.toNat < n) : seqIndex? k n = some k.toNat := by
  obtain ⟨j, rfl⟩ := Int.eq_ofNat_of_zero_le h0
  have h3 : j < n := hl
  simp [seqIndex?, h3, Int.not_lt.mpr h0]
theorem okItem : GetOK d gItem := by
  intro prog w os h₀ A ρ σ h a b c va vb σ' B C R ra rb e
  unfold gItem at e
  split at e
  · rename_i k
    obtain ⟨tb, rfl⟩ := rb
    split at e
    · rename_i hk
      split at e
      · rename_i bs e1
        obtain ⟨u, e2, e⟩ := Option.map_eq_some_iff.mp e
        cases e
        rcases lends_rel R ra e1 with ⟨t, rfl⟩ | ⟨x, rfl, ho⟩
        · refine ⟨⟨fun e => (nomatch e), "bytes", _, fun s _ => PySem.W.typeIs_bytes s _ t, FB.slot_bytes_getitem.lookup⟩, T.any fun s e g o => ?_⟩
          subst e
          have hl : k.toNat < bs.toArray.size := by simpa using (List.getElem?_eq_some_iff.mp e2).1
          exact getItem_gives (PySem.W.typeIs_bytes s _ t) (by decide) FB.slot_bytes_getitem FB.entry_bytes_getitem (FB.args_bytes_getitem_2 _ _)
            (gives_bytes_getitem _ k t tb u (fits_small hk.1 (by lia)) (by rw [seqIdx hk.1 hl]; simpa using e2)) ⟨g, o, VP.here R rfl ⟨_, rfl⟩⟩
        · exact ⟨ItemTy.ref ho rfl BF.slot_getitem.lookup, T.baItem ho hk.1 (by lia) (by simpa using e2) fun t => VP.here R rfl ⟨t, rfl⟩⟩
      · split at e
        · split at e
          · rename_i xs q
            obtain ⟨x, e2, e⟩ := Option.map_eq_some_iff.mp e
            cases e
            obtain ⟨y, hy, rfl⟩ := ra
            obtain ⟨o, ho, hc, _, n, us, hd, ru⟩ := R.get q hy
            obtain ⟨v, hv, rv⟩ := ru.get e2
            refine ⟨ItemTy.ref ho hc list_getitem_lookup, T.any fun s e g o' => ?_⟩
            subst e
            exact wpAny_getItem_list (items := us.toArray) ⟨o, ho, hc, n, hd⟩ hk.1 (by lia) (by simpa using hv) ⟨g, o', VP.here R rfl rv⟩
          · rename_i xs q
            obtain ⟨x, e2, e⟩ := Option.map_eq_some_iff.mp e
            cases e
            obtain ⟨y, hy, rfl⟩ := ra
            obtain ⟨o, ho, hc, n, us, hd, ru⟩ := R.get q hy
            obtain ⟨v, hv, rv⟩ := ru.get e2
            refine ⟨ItemTy.ref ho hc slot_tuple_getitem.lookup, T.any fun s e g o' => ?_⟩
            subst e
            have hl : k.toNat < us.toArray.size := by simpa using (List.getElem?_eq_some_iff.mp hv).1
            exact getItem_tuple (items := us.toArray) ⟨o, ho, hc, n, hd⟩ (by lia) (by lia) (seqIdx hk.1 hl) (by simpa using hv) ⟨g, o', VP.here R rfl rv⟩
          · cases e
        · cases e
    · cases e
  · cases e
end
end Mine
set_option maxRecDepth 100000
namespace Mine
/-- a row's part, by its bounds -/
noncomputable def cutL {α : Type} (xs : List α) (lo hi : Option Nat) : List α := (xs.drop (lo.getD 0)).take (hi.getD xs.length - lo.getD 0)
noncomputable def bound : AV → Option (Option Nat)
  | .none => some none
  | .int i => if 0 ≤ i then some (some i.toNat) else none
  | _ => none
theorem cut_min {α : Type} (xs : List α) (a b : Nat) : (xs.drop (min a xs.length)).take (min b xs.length - min a xs.length) = (xs.drop a).take (b - a) := by
  by_cases h : a ≤ xs.length
  · rw [Nat.min_eq_left h]
    by_cases hb : b ≤ xs.length
    · rw [Nat.min_eq_left hb]
    · rw [Nat.min_eq_right (by lia), List.take_of_length_le (by simp), List.take_of_length_le (by simp; lia)]
  · have h' : xs.length ≤ a := by lia
    rw [show min a xs.length = xs.length from Nat.min_eq_right h', List.drop_of_length_le (Nat.le_refl _), List.drop_of_length_le h']
    simp
theorem bound_part {ρ : List Addr} {a : AV} {v : Value} {o : Option Nat} (r : VRel ρ a v) (e : bound a = some o) : IsPart v (o.map fun n => (n : Int)) := by
  unfold bound at e
  split at e
  · cases e
    rw [show v = .none from r]; exact .none
  · rename_i i
    split at e
    · rename_i hi
      cases e
      obtain ⟨t, rfl⟩ := r
      have := IsPart.int i t
      rw [show ((some i.toNat).map fun n => (n : Int)) = some i by simp [Int.toNat_of_nonneg hi]]
      exact this
    · cases e
  · cases e
theorem clip_elim {α : Type} (xs : List α) (lo hi : Option Nat) : (xs.drop ((lo.map fun n => (n : Int)).elim 0 (clipAt xs.length))).take ((hi.map fun n => (n : Int)).elim xs.length (clipAt xs.length) - (lo.map fun n => (n : Int)).elim 0 (clipAt xs.length)) = cutL xs lo hi := by
  have h1 : (lo.map fun n => (n : Int)).elim 0 (clipAt xs.length) = min (lo.getD 0) xs.length := by
    cases lo with
    | none => simp
    | some a => simp [clipAt_nat]
  have h2 : (hi.map fun n => (n : Int)).elim xs.length (clipAt xs.length) = min (hi.getD xs.length) xs.length := by
    cases hi with
    | none => simp
    | some a => simp [clipAt_nat]
  rw [h1, h2, cut_min]
  rfl
theorem picked_cut (b : List UInt8) (lo hi : Option Nat) : KBy.picked b.toArray (lo.map fun n => (n : Int)) (hi.map fun n => (n : Int)) = (cutL b lo hi).toArray := by
  rw [KBc.picked_eq]
  rw [show b.toArray.size = b.length from by simp]
  rw [clip_elim]
theorem pick_cut (b : List Value) (lo hi : Option Nat) : slicePick b.toArray (lo.map fun n => (n : Int)) (hi.map fun n => (n : Int)) none = (cutL b lo hi).toArray := by
  rw [slicePick_plain]
  rw [show b.toArray.size = b.length from by simp]
  rw [clip_elim]
theorem VRels.cut {ρ : List Addr} : ∀ {as : List AV} {vs : List Value} (n : Nat), VRels ρ as vs → VRels ρ (as.drop n) (vs.drop n)
  | [], [], n, _ => by simp [VRels]
  | _ :: _, _ :: _, 0, h => h
  | _ :: as, _ :: vs, n + 1, h => VRels.cut n h.2
theorem VRels.take {ρ : List Addr} : ∀ {as : List AV} {vs : List Value} (n : Nat), VRels ρ as vs → VRels ρ (as.take n) (vs.take n)
  | [], [], n, _ => by simp [VRels]
  | _ :: _, _ :: _, 0, _ => trivial
  | _ :: as, _ :: vs, n + 1, h => ⟨h.1, VRels.take n h.2⟩
theorem VRels.cutL {ρ : List Addr} {as : List AV} {vs : List Value} (lo hi : Option Nat) (h : VRels ρ as vs) : VRels ρ (Mine.cutL as lo hi) (Mine.cutL vs lo hi) := by
  unfold Mine.cutL
  rw [← h.length]
  exact VRels.take _ (VRels.cut _ h)

section
variable {fi : FI} {d : Nat}
noncomputable def eOpt : Option Ev → Ev
  | none => eConst .none
  | some f => f
inductive OptOK (fi : FI) (d : Nat) : Option Ev → Option Expr → Prop
  | no : OptOK fi d none none
  | so {f : Ev} {x : Expr} (h : EvOK fi d f x) : OptOK fi d (some f) (some x)
theorem T.part {prog : Program} {w : World} {os : OsState} {h₀ : Heap} {A : Around} {ρ : List Addr} {σ : AH} {h : Heap} {L : Addr} {m : Str → Option Value} {vars : Vars} {a : AV} {σ' : AH} {f : Option Ev} {x : Option Expr} (hf : OptOK fi d f x)
    (B : Base w h₀) (C : Cond d A) (ok : fi.Ok) (S : FS fi h₀ ρ σ h L m vars) (e : eOpt f vars σ = some (a, σ')) : T (model prog w) os A (evalPart x (fi.env L)) h (VP h₀ ρ h a σ') := by
  cases hf with
  | no => cases e; exact T.pure ⟨ρ, Ext.refl, S.rep, rfl⟩
  | so hf => exact hf B C ok S e
noncomputable abbrev sliceObj (vl vu : Value) : Obj := { cls := .type "slice", data := .fields #[vl, vu, .none] }
theorem T.slice {prog : Program} {w : World} {os : OsState} {h₀ : Heap} {A : Around} {ρ : List Addr} {σ : AH} {h : Heap} {L : Addr} {m : Str → Option Value} {vars : Vars} {f g : Option Ev} {x y : Option Expr} {p : Pos} (hf : OptOK fi d f x) (hg : OptOK fi d g y)
    (B : Base w h₀) (C : Cond d A) (ok : fi.Ok) (S : FS fi h₀ ρ σ h L m vars) {a : AV} {σ₁ : AH} {b : AV} {σ₂ : AH} (e1 : eOpt f vars σ = some (a, σ₁)) (e2 : eOpt g vars σ₁ = some (b, σ₂)) {Q : Value → Heap → Prop}
    (q : ∀ va vb ρ₂ h₂, Ext ρ h ρ₂ h₂ → FS fi h₀ ρ₂ σ₂ h₂ L m vars → VRel ρ₂ a va → VRel ρ₂ b vb → Q (.ref h₂.objs.size) (h₂.push (sliceObj va vb))) : T (model prog w) os A (eval (.Slice x y none p) (fi.env L)) h Q := by
  rw [arm_eval_Slice]
  refine T.bind (T.mono (T.part hf B C ok S e1) fun va h₁ k => ?_)
  obtain ⟨ρ₁, x1, R1, r1⟩ := k
  refine T.bind (T.holding (T.mono (T.part hg B C ok (S.step x1 R1) e2) fun vb h₂ k => ?_))
  obtain ⟨ρ₂, x2, R2, r2⟩ := k
  refine T.bind (T.holding (T.pure ?_))
  refine T.any fun s e g o => wpAny_newObj_type ⟨g, o, ?_⟩
  subst e
  exact q va vb ρ₂ _ (x1.trans x2) ((S.step x1 R1).step x2 R2) (r1.ext x2) r2
noncomputable def gCut : AV → Option Nat → Option Nat → AH → Option (AV × AH) := fun a lo hi σ => match a with
  | .bytes b => if b.length ≤ 16777216 then some (.bytes (cutL b lo hi), σ) else none
  | .obj i => match σ[i]? with
    | some (.ba b) => if b.length ≤ 16777216 then some (.obj σ.length, σ ++ [.ba (cutL b lo hi)]) else none
    | some (.list _ xs) => if xs.length ≤ 16777216 then some (.obj σ.length, σ ++ [.list true (cutL xs lo hi)]) else none
    | some (.tup [x0, x1, x2, x3, x4, x5]) => if lo = none ∧ hi = some 5 then some (.obj σ.length, σ ++ [.tup [x0, x1, x2, x3, x4]]) else none
    | _ => none
  | _ => none
theorem tupleCut {prog : Program} {w : World} {A : Around} {E : Value → Shared → Prop} {s : Shared} {t sl : Addr} {v0 v1 v2 v3 v4 v5 : Value} {u : Tok} {Q : Value → Shared → Prop} (ht : IsTup s.heap t #[v0, v1, v2, v3, v4, v5]) (hs : s.heap.IsSliceOf sl .none (.int 5 u) .none)
    (h : Q (.ref s.heap.objs.size) { s with heap := s.heap.push { cls := .type "tuple", data := .seq #[v0, v1, v2, v3, v4] } }) : wpAny (model prog w) A (getItem (.ref t) (.ref sl)) Q E s := by
  obtain ⟨os, hos, hcs, hds⟩ := id hs
  have hTs : s.TypeIs (.ref sl) "slice" := ⟨os, hos, hcs⟩
  unfold getItem
  refine wpAny_holding ?_
  refine wpAny_bind (wpAny_sequenceKey ht.typeIs (by decide) ?_)
  refine wpAny_bind (wpAny_callSpecial?_slot (name := Str.ofString "__getitem__") ht.typeIs slot_tuple_getitem
    (wpAny_call_entry slot_tuple_getitem ht.typeIs entry_tuple_getitem ?_ (args_tuple_getitem _ _)))
  show wpAny _ _ (Builtin.Tuple.tupleItemsOf (.ref t) >>= _) _ _ s
  refine wpAny_bind (tupleItemsOf_ ht ?_)
  refine wpAny_bind (wpAny_typeOf hTs ?_)
  rw [if_pos (by decide)]
  have sa : wpAny (model prog w) A.in1 (Builtin.Slice.sliceApplied (.ref sl) (pure ((6 : Nat) : Int))) (fun r s' => r = (0, 1, 5) ∧ s' = s) (fun _ _ => False) s := by
    unfold Builtin.Slice.sliceApplied Builtin.Slice.sliceFields
    refine wpAny_bind (wpAny_bind (wpAny_field hos hds (x := .none) rfl (wpAny_bind (wpAny_field hos hds (x := .int 5 u) rfl (wpAny_bind (wpAny_field hos hds (x := .none) rfl (wpAny_pure ?_)))))))
    refine wpAny_bind (slicePart_none ?_)
    show wpAny _ _ (if ((1 : Int) == 0) = true then _ else _) _ _ s
    rw [if_neg (by decide)]
    refine wpAny_bind (slicePart_none (wpAny_bind (slicePart_int (wpAny_bind (wpAny_pure ?_)))))
    exact wpAny_pure ⟨rfl, rfl⟩
  refine wpAny_bind (wpAny_mono sa (fun r s' hr => ?_) fun _ _ x => x.elim)
  obtain ⟨rfl, rfl⟩ := hr
  dsimp only
  rw [if_neg (show ¬ (((0 : Int) == 0 && (1 : Int) == 1 && 5 == #[v0, v1, v2, v3, v4, v5].size) = true) by show ¬ (((0 : Int) == 0 && (1 : Int) == 1 && 5 == 6) = true); decide)]
  refine wpAny_bind (m := Builtin.Tuple.tupleExact _) (wpAny_newObj_type ?_ (show 5 ≤ sizeLine by rw [sizeLine_eq]; lia))
  exact wpAny_pure ⟨_, rfl, wpAny_pure h⟩
theorem T.getCut {prog : Program} {w : World} {os : OsState} {h₀ : Heap} {A : Around} {ρ : List Addr} {σ : AH} {h : Heap} {a c : AV} {va vl vu : Value} {lo hi : Option Nat} {σ' : AH} (C : Cond d A) (R : Rep h₀ ρ σ h) (r : VRel ρ a va)
    (pl : IsPart vl (lo.map fun n => (n : Int))) (pu : IsPart vu (hi.map fun n => (n : Int))) (e : gCut a lo hi σ = some (c, σ')) :
    ItemTy (h.push (sliceObj vl vu)) va ∧ T (model prog w) os A (PySem.getItem va (.ref h.objs.size)) (h.push (sliceObj vl vu)) (VP h₀ ρ h c σ') := by
  have hs : (h.push (sliceObj vl vu)).IsSliceOf h.objs.size vl vu .none := Heap.IsSliceOf.new _ _ _ _
  have R1 : Rep h₀ ρ σ (h.push (sliceObj vl vu)) := R.garbage _
  have x1 : Ext ρ h ρ (h.push (sliceObj vl vu)) := Ext.garbage _
  unfold gCut at e
  split at e
  · split at e
    · rename_i b hz
      cases e
      obtain ⟨t, rfl⟩ := r
      refine ⟨⟨fun e => (nomatch e), "bytes", _, fun s _ => PySem.W.typeIs_bytes s _ t, FB.slot_bytes_getitem.lookup⟩, T.any fun s e g o => ?_⟩
      refine getItem_meets (PySem.W.typeIs_bytes _ _ _) (by decide) FB.slot_bytes_getitem FB.entry_bytes_getitem (FB.args_bytes_getitem_2 _ _) (KBc.meets_slice2 b.toArray t _ pl pu)
        ⟨by rw [e]; exact hs, Nat.le_trans (KBc.size_picked_le _ _ _) (by rw [sizeLine_eq]; simpa using hz), fun t' k => ⟨g, o, ?_⟩⟩
      rw [picked_cut]
      exact VP.trans x1 (VP.here R1 e ⟨t', rfl⟩)
    · cases e
  · split at e
    · split at e
      · rename_i b q hz
        cases e
        obtain ⟨x, hx, rfl⟩ := r
        obtain ⟨o, ho, ro⟩ := R1.get q hx
        rw [show o = _ from ro] at ho
        refine ⟨ItemTy.ref ho rfl BF.slot_getitem.lookup, T.baSlice ho hs pl pu (by rw [sizeLine_eq]; simpa using hz) ?_⟩
        rw [picked_cut]
        exact VP.trans x1 (VP.new R1 rfl rfl)
      · cases e
    · split at e
      · rename_i xs q hz
        cases e
        obtain ⟨x, hx, rfl⟩ := r
        obtain ⟨o, ho, hc, _, n, us, hd, ru⟩ := R1.get q hx
        refine ⟨ItemTy.ref ho hc list_getitem_lookup, T.any fun s e g o' => ?_⟩
        obtain ⟨hp, gg, dd, tt, oo⟩ := s
        dsimp only at e g o'
        subst e
        refine wpAny_getItem_list_slice (items := us.toArray) (st := none) ⟨o, ho, hc, n, hd⟩ hs pl pu .none (fun e => nomatch e) ⟨g, o', ?_⟩ (by rw [sizeLine_eq]; have := ru.length; simp; lia)
        rw [pick_cut]
        exact VP.trans x1 (VP.new R1 ⟨rfl, fun _ => ⟨rfl, rfl⟩, 0, _, rfl, (ru.cutL lo hi).mono⟩ rfl)
      · cases e
    · rename_i y0 y1 y2 y3 y4 y5 q
      split at e
      · rename_i hh
        obtain ⟨rfl, rfl⟩ := hh
        cases e
        obtain ⟨x, hx, rfl⟩ := r
        obtain ⟨o, ho, hc, n, us, hd, ru⟩ := R1.get q hx
        match us, ru with
        | [v0, v1, v2, v3, v4, v5], ru =>
          have e1 : vl = .none := by cases pl; rfl
          obtain ⟨u, e2⟩ : ∃ u, vu = .int 5 u := by
            cases pu with
            | int i t => exact ⟨t, rfl⟩
          subst e1 e2
          refine ⟨ItemTy.ref ho hc slot_tuple_getitem.lookup, T.any fun s e g o' => ?_⟩
          obtain ⟨hp, gg, dd, tt, oo⟩ := s
          dsimp only at e g o'
          subst e
          refine tupleCut ⟨o, ho, hc, n, hd⟩ hs ⟨g, o', ?_⟩
          exact VP.trans x1 (VP.new R1 ⟨rfl, 0, [v0, v1, v2, v3, v4], rfl, ⟨ru.1.mono, ru.2.1.mono, ru.2.2.1.mono, ru.2.2.2.1.mono, ru.2.2.2.2.1.mono, trivial⟩⟩ rfl)
      · cases e
    · cases e
  · cases e
noncomputable def eCut (f : Ev) (g k : Option Ev) : Ev := fun vars σ => (f vars σ).bind fun p => (eOpt g vars p.2).bind fun q => (eOpt k vars q.2).bind fun r => (bound q.1).bind fun lo => (bound r.1).bind fun hi => gCut p.1 lo hi r.2
theorem EvOK.cut {f : Ev} {g k : Option Ev} {x : Expr} {y z : Option Expr} {p p' : Pos} (hf : EvOK fi d f x) (hg : OptOK fi d g y) (hk : OptOK fi d k z) : EvOK fi d (eCut f g k) (.Subscript x (.Slice y z Option.none p') p) := by
  intro prog w os h₀ A ρ σ h L m vars a σ' B C ok S e
  unfold eCut at e
  obtain ⟨⟨a1, σ₁⟩, e1, e⟩ := Option.bind_eq_some_iff.mp e
  obtain ⟨⟨a2, σ₂⟩, e2, e⟩ := Option.bind_eq_some_iff.mp e
  obtain ⟨⟨a3, σ₃⟩, e3, e⟩ := Option.bind_eq_some_iff.mp e
  obtain ⟨lo, e4, e⟩ := Option.bind_eq_some_iff.mp e
  obtain ⟨hi, e5, e⟩ := Option.bind_eq_some_iff.mp e
  rw [eval_Subscript]
  show T _ _ _ (do let o ← eval x (fi.env L); let i ← PySem.holding [o] (eval (.Slice y z Option.none p') (fi.env L)); PySem.standAt p; subscriptTail x (.Slice y z Option.none p') o i) _ _
  refine T.bind (T.mono (hf B C ok S e1) fun va h₁ kk => ?_)
  obtain ⟨ρ₁, x1, R1, r1⟩ := kk
  refine T.bind (T.holding (T.slice hg hk B C ok (S.step x1 R1) e2 e3 fun vl vu ρ₂ h₂ x2 S2 r2 r3 => ?_))
  obtain ⟨it, key⟩ := T.getCut (prog := prog) (w := w) (os := os) (vl := vl) (vu := vu) C S2.rep (r1.ext x2) (bound_part r2 e4) (bound_part r3 e5) e
  exact T.bind (T.standAt (T.subTail it (T.mono key fun v h' kk => VP.trans (x1.trans x2) kk)))
end
end Mine
set_option maxRecDepth 100000
namespace Mine
theorem VRels.set {ρ : List Addr} : ∀ {as : List AV} {vs : List Value} (n : Nat) {a : AV} {v : Value}, VRels ρ as vs → VRel ρ a v → VRels ρ (as.set n a) (vs.set n v) := by
  intro as
  induction as with
  | nil =>
    intro vs n a v h r
    cases vs with
    | nil => cases n <;> trivial
    | cons u us => exact h.elim
  | cons x xs ih =>
    intro vs n a v h r
    cases vs with
    | nil => exact h.elim
    | cons u us =>
      cases n with
      | zero => exact ⟨r, h.2⟩
      | succ n => exact ⟨h.1, ih n h.2 r⟩
theorem cutIn_list (x y : Nat) (n b : List UInt8) (hy : x ≤ y) (hb : y ≤ b.length) : cutIn x y n.toArray b.toArray = (b.take x ++ n ++ b.drop y).toArray := by
  unfold cutIn
  simp [List.take_of_length_le]
/-- a store into a row -/
noncomputable def putCut (a : AV) (lo hi : Option Nat) (v : AV) (σ : AH) : Option AH := match a with
  | .obj i => match σ[i]? with
    | some (.ba b) => if lo.getD 0 ≤ hi.getD b.length ∧ hi.getD b.length ≤ b.length ∧ b.length ≤ 16777216 then (match v with
        | .bytes n => if n.length = hi.getD b.length - lo.getD 0 then some (σ.set i (.ba (b.take (lo.getD 0) ++ n ++ b.drop (hi.getD b.length)))) else none
        | .obj j => match σ[j]? with
          | some (.ba n) => if i ≠ j ∧ n.length = hi.getD b.length - lo.getD 0 then some (σ.set i (.ba (b.take (lo.getD 0) ++ n ++ b.drop (hi.getD b.length)))) else none
          | _ => none
        | _ => none) else none
    | _ => none
  | _ => none
section
variable {prog : Program} {w : World} {os : OsState} {h₀ : Heap} {A : Around} {ρ : List Addr} {σ : AH} {h : Heap}
theorem clip_lo {lo : Option Nat} {n : Nat} (h : lo.getD 0 ≤ n) : (lo.map fun n => (n : Int)).elim 0 (clipAt n) = lo.getD 0 := by
  cases lo with
  | none => simp
  | some a => simp [clipAt_nat]; exact Nat.min_eq_left h
theorem clip_hi {hi : Option Nat} {n : Nat} (h : hi.getD n ≤ n) : (hi.map fun n => (n : Int)).elim n (clipAt n) = hi.getD n := by
  cases hi with
  | none => simp
  | some a => simp [clipAt_nat]; exact Nat.min_eq_left h
theorem T.putCut {a c : AV} {va vc vl vu : Value} {lo hi : Option Nat} {σ' : AH} {Q : Unit → Heap → Prop} (C : Cond d A) (R : Rep h₀ ρ σ h) (ra : VRel ρ a va) (rc : VRel ρ c vc)
    (pl : IsPart vl (lo.map fun n => (n : Int))) (pu : IsPart vu (hi.map fun n => (n : Int))) (e : putCut a lo hi c σ = some σ')
    (k : ∀ h', Rep h₀ ρ σ' h' → Ext ρ h ρ h' → Q () h') : T (model prog w) os A (PySem.setItem va (.ref h.objs.size) vc) (h.push (sliceObj vl vu)) Q := by
  have hs : (h.push (sliceObj vl vu)).IsSliceOf h.objs.size vl vu .none := Heap.IsSliceOf.new _ _ _ _
  have R1 : Rep h₀ ρ σ (h.push (sliceObj vl vu)) := R.garbage _
  have x1 : Ext ρ h ρ (h.push (sliceObj vl vu)) := Ext.garbage _
  unfold Mine.putCut at e
  split at e
  · rename_i i
    split at e
    · rename_i b q
      obtain ⟨x, hx, rfl⟩ := ra
      obtain ⟨o, ho, ro⟩ := R1.get q hx
      rw [show o = _ from ro] at ho
      split at e
      · rename_i hh
        obtain ⟨h1, h2, h3⟩ := hh
        split at e
        · rename_i n
          split at e
          · rename_i hn
            cases e
            obtain ⟨t, rfl⟩ := rc
            refine T.setBytes C.guards ho hs pl pu (x := lo.getD 0) (y := hi.getD b.length) (by simpa using clip_lo (Nat.le_trans h1 h2)) (by simpa using clip_hi h2) h1 (by simpa using h2) (by simpa using hn) (by simpa using h3) (k _ ?_ ?_)
            · refine (R1.garbage _).set hx q rfl (Heap.get?_push_of_some _ ho) rfl ?_
              show baObj _ = baObj _
              rw [cutIn_list _ _ _ _ h1 h2]
            · exact x1.trans ((Ext.garbage _).trans (Ext.set (List.mem_of_getElem? hx)))
          · cases e
        · rename_i j
          split at e
          · rename_i n q2
            split at e
            · rename_i hn
              cases e
              obtain ⟨y, hy, rfl⟩ := rc
              obtain ⟨o2, ho2, ro2⟩ := R1.get q2 hy
              rw [show o2 = _ from ro2] at ho2
              have hne : x ≠ y := fun z => hn.1 (by
                subst z
                have e1 := List.getElem?_eq_some_iff.mp hx
                have e2 := List.getElem?_eq_some_iff.mp hy
                exact (List.getElem_inj R.nodup).mp (e1.2.trans e2.2.symm))
              refine T.setBa hne ho ho2 hs pl pu (x := lo.getD 0) (y := hi.getD b.length) (by simpa using clip_lo (Nat.le_trans h1 h2)) (by simpa using clip_hi h2) h1 (by simpa using h2) (by simpa using hn.2) (by simpa using h3) (k _ ?_ ?_)
              · refine R1.set hx q rfl ho rfl ?_
                show baObj _ = baObj _
                rw [cutIn_list _ _ _ _ h1 h2]
              · exact x1.trans (Ext.set (List.mem_of_getElem? hx))
            · cases e
          · cases e
        · cases e
      · cases e
    · cases e
  · cases e
/-- a list's item turned -/
theorem setItem_upd {E : Value → Shared → Prop} {s : Shared} {l : Addr} {o : Obj} {items : Array Value} {ne : Nat} {k : Int} {t : Tok} {v : Value} {Q : Unit → Shared → Prop} (ho : s.heap.get? l = some o) (hc : o.cls = .type "list") (hd : o.data = .seq items ne)
    (h0 : 0 ≤ k) (hfit : k < 2 ^ 63) (hn : k < items.size)
    (hQ : Q () { s with heap := s.heap.update l (Obj.mapSeq (·.setIfInBounds k.toNat v)) }) :
    wpAny (model prog w) A (setItem (.ref l) (.int k t) v) Q E s := by
  have hl : s.heap.IsList l items := ⟨o, ho, hc, ne, hd⟩
  unfold setItem
  refine wpAny_holding ?_
  refine wpAny_bind (wpAny_sequenceKey hl.typeIs (by decide) ?_)
  refine wpAny_bind (wpAny_callSpecial?_slot (name := Str.ofString "__setitem__") hl.typeIs slot_list_setitem
    (wpAny_call_entry slot_list_setitem hl.typeIs entry_list_setitem ?_ (args_list_setitem _ _ _)))
  show wpAny _ _ (Builtin.List.listSubscript? (.int k t) >>= _) _ _ s
  refine wpAny_bind (wpAny_listSubscript_int (fitsIndex_of h0 hfit) ?_)
  clear hfit
  obtain ⟨j, rfl⟩ := Int.eq_ofNat_of_zero_le h0
  have hj : j < items.size := by lia
  have hx' : items[j]? = some items[j] := Array.getElem?_eq_getElem hj
  show wpAny _ _ ((seqItemAt l j >>= fun r => pure (r.map (j, ·))) >>= _) _ _ s
  refine wpAny_bind (wpAny_bind (wpAny_seqItemAt ho hd (wpAny_pure ?_)))
  rw [hx']
  show wpAny _ _ (setSeqItemAt l j v >>= _) _ _ s
  refine wpAny_bind (wpAny_setSeqItemAt ho hd ?_)
  first
    | exact wpAny_bind (wpAny_pure (wpAny_pure ⟨.none, rfl, wpAny_pure hQ⟩))
    | exact wpAny_pure ⟨.none, rfl, wpAny_pure hQ⟩
noncomputable def putItem (a b v : AV) (σ : AH) : Option AH := match a, b with
  | .obj i, .int k => match σ[i]? with
    | some (.list true xs) => if 0 ≤ k ∧ k < xs.length ∧ xs.length < 16777216 then some (σ.set i (.list true (xs.set k.toNat v))) else none
    | _ => none
  | .obj i, .obj j => match σ[i]?, σ[j]? with
    | some .edict, some (.tup ks) => match intsOf ks, v with
      | some _, .int _ => some (σ.set i .junk)
      | _, _ => none
    | _, _ => none
  | _, _ => none
theorem mapSeq_own {f : Array Value → Array Value} {o : Obj} (h : o.dict = none ∧ o.slots = #[]) : (Obj.mapSeq f o).dict = none ∧ (Obj.mapSeq f o).slots = #[] := by
  obtain ⟨c, dd, da, sl⟩ := o
  cases da <;> exact h
theorem Rep.turn (R : Rep h₀ ρ σ h) {h' : Heap} {i : Nat} {a : Addr} {ao ao' : AO} {o o' : Obj} (e : ρ[i]? = some a) (q : σ[i]? = some ao) (hm : ao.fixed = false) (ho' : h'.get? a = some o') (hs : Heap.SameBut a h h') (r : ORel ρ ao' o') : Rep h₀ ρ (σ.set i ao') h' := by
  have ha := List.mem_of_getElem? e
  refine ⟨by rw [List.length_set, R.len], R.nodup, fun j b ao e1 e2 => ?_, fun j b ao2 e1 e2 hm2 => ?_, R.big, ?_, fun b o2 q' => ?_⟩
  · by_cases hj : i = j
    · subst hj
      rw [e] at e1; cases e1
      have hl : i < σ.length := R.len ▸ (List.getElem?_eq_some_iff.mp e).1
      rw [List.getElem?_set_self hl] at e2; cases e2
      exact ⟨o', ho', r⟩
    · rw [List.getElem?_set_ne hj] at e2
      obtain ⟨o2, ho2, r2⟩ := R.at_ j b ao e1 e2
      refine ⟨o2, (hs.2 b fun z => ?_).trans ho2, r2⟩
      subst z
      have h1 := List.getElem?_eq_some_iff.mp e
      have h2 := List.getElem?_eq_some_iff.mp e1
      exact hj ((List.getElem_inj R.nodup).mp (h1.2.trans h2.2.symm))
  · by_cases hj : i = j
    · subst hj
      rw [e] at e1; cases e1
      exact R.fresh i a ao e q hm
    · rw [List.getElem?_set_ne hj] at e2
      exact R.fresh j b ao2 e1 e2 hm2
  · obtain ⟨z, hz, w⟩ := R.wit
    refine ⟨z, hz, ?_⟩
    by_cases hza : z = a
    · rw [hza, ho']; rfl
    · rw [hs.2 z hza]; exact w
  · refine (hs.2 b fun z => ?_).trans (R.keep b o2 q')
    subst z
    exact absurd (Heap.lt_size q') (Nat.not_lt.mpr (R.fresh i _ ao e q hm))
theorem Ext.turn {h' : Heap} {a : Addr} (ha : a ∈ ρ) (hs : Heap.SameBut a h h') : Ext ρ h ρ h' :=
  ⟨⟨[], (List.append_nil _).symm⟩, fun _ => .inl, fun b o e hn => (hs.2 b fun z => hn (by rw [z]; exact ha)).trans e⟩
/-- a tuple of ints as a key -/
theorem keyItems {prog : Program} {w : World} {ρ : List Addr} : ∀ {xs : List AV} {vs : List Value} {is : List Int}, VRels ρ xs vs → intsOf xs = some is → PySem.ItemsAre (intKind prog w) is vs
  | [], [], _, _, e => by cases e; exact .nil
  | .int i :: xs, v :: vs, _, h, e => by
    unfold intsOf at e
    obtain ⟨r, e1, e⟩ := Option.map_eq_some_iff.mp e
    cases e
    obtain ⟨t, rfl⟩ := h.1
    exact .cons (by show Value.isInt i (.int i t) = true; simp [Value.isInt]) (keyItems h.2 e1)
  | .none :: _, _, _, _, e | .bool _ :: _, _, _, _, e | .str _ :: _, _, _, _, e | .bytes _ :: _, _, _, _, e | .obj _ :: _, _, _, _, e | .st _ :: _, _, _, _, e => by cases e
theorem tupKey {ks : List AV} {is : List Int} {x : Addr} {o : Obj} (ho : h.get? x = some o) (r : ORel ρ (.tup ks) o) (e : intsOf ks = some is) : (tupleKind (intKind prog w)).is h is x := by
  obtain ⟨hc, n, vs, hd, rv⟩ := r
  exact ⟨o, vs.toArray, n, ho, hc, hd, keyItems rv e⟩
theorem emptyDictOf {x : Addr} (ho : h.get? x = some PySem.W.emptyDict) : h.DictOfH (tupleKind (intKind prog w)) x [] :=
  ⟨_, #[], 0, ho, ⟨rfl, rfl, rfl⟩, rfl, rfl, fun _ hx => by simp at hx, List.nodup_nil⟩
theorem T.putItem {a b c : AV} {va vb vc : Value} {σ' : AH} {Q : Unit → Heap → Prop} (C : Cond d A) (R : Rep h₀ ρ σ h) (ra : VRel ρ a va) (rb : VRel ρ b vb) (rc : VRel ρ c vc) (e : putItem a b c σ = some σ')
    (k : ∀ h', Rep h₀ ρ σ' h' → Ext ρ h ρ h' → Q () h') : T (model prog w) os A (PySem.setItem va vb vc) h Q := by
  unfold Mine.putItem at e
  split at e
  · rename_i i kk
    split at e
    · rename_i xs q
      split at e
      · rename_i hh
        cases e
        obtain ⟨x, hx, rfl⟩ := ra
        obtain ⟨t, rfl⟩ := rb
        obtain ⟨o, ho, hc, hdn, n, vs, hd, rv⟩ := R.get q hx
        have hl := rv.length
        refine T.any fun s e g o' => ?_
        subst e
        refine setItem_upd (items := vs.toArray) ho hc hd hh.1 (by lia) (by simp; lia) ⟨g, o', ?_⟩
        obtain ⟨n', hd'⟩ := Obj.data_mapSeq hd (·.setIfInBounds kk.toNat vc)
        refine k _ (R.set hx q rfl ho (Obj.isFreed_of_seq hd') ⟨(Obj.cls_mapSeq ..).trans hc, fun w => mapSeq_own (hdn w), n', vs.set kk.toNat vc, by rw [hd']; simp, rv.set _ rc⟩) (Ext.set (List.mem_of_getElem? hx))
      · cases e
    · cases e
  · rename_i i j
    split at e
    · rename_i ks q1 q2
      split at e
      · rename_i is iv e1
        cases e
        obtain ⟨x, hx, rfl⟩ := ra
        obtain ⟨y, hy, rfl⟩ := rb
        obtain ⟨o, ho, ro⟩ := R.get q1 hx
        obtain ⟨o2, ho2, ro2⟩ := R.get q2 hy
        rw [show o = _ from ro] at ho
        refine T.any fun s e g o' => ?_
        subst e
        refine wpAny_setItem_heap (hsz := Nat.zero_le _) (knd := tupleKind (intKind prog w)) (tupleKind_room_in1 (by have := C.units; unfold cLine; lia)) (tupKey ho2 ro2 e1) (emptyDictOf ho) fun h' hm' hs => ⟨g, o', ?_⟩
        obtain ⟨od, es', ep', ho', _⟩ := hm'
        exact k _ (R.turn hx q1 rfl (o' := od) (o := od) ho' hs trivial) (Ext.turn (List.mem_of_getElem? hx) hs)
      · cases e
    · cases e
  · cases e
end
section
variable {fi : FI} {d : Nat}
/-- o[i] = e -/
noncomputable def xPut (f fo fi' : Ev) : Ex := fun vars σ => (f vars σ).bind fun p => (fo vars p.2).bind fun q => (fi' vars q.2).bind fun r => (putItem q.1 r.1 p.1 r.2).map fun σ' => (.next, vars, σ')
theorem ExOK.put {f fo g : Ev} {o i x : Expr} {p q : Pos} (hc : noComp x = true) (hf : EvOK fi d f x) (ho : EvOK fi d fo o) (hg : EvOK fi d g i) : ExOK fi d (xPut f fo g) (.Assign [.Subscript o i p] x q) := by
  intro prog w os h₀ A ρ σ h L m vars vars' a σ' B C ok S e
  unfold xPut at e
  obtain ⟨⟨v1, σ₁⟩, e1, e⟩ := Option.bind_eq_some_iff.mp e
  obtain ⟨⟨v2, σ₂⟩, e2, e⟩ := Option.bind_eq_some_iff.mp e
  obtain ⟨⟨v3, σ₃⟩, e3, e⟩ := Option.bind_eq_some_iff.mp e
  obtain ⟨σ₄, e4, e⟩ := Option.map_eq_some_iff.mp e
  cases e
  rw [exec_Assign_Subscript _ _ _ _ _ (swaps_no hc)]
  refine T.bind (T.standAt (T.bind (T.mono (hf B C ok S e1) fun v h₁ k => ?_)))
  obtain ⟨ρ₁, x1, R1, r1⟩ := k
  rw [assign_Subscript]
  refine T.bind (T.bind (T.holding (T.mono (ho B C ok (S.step x1 R1) e2) fun ov h₂ k => ?_)))
  obtain ⟨ρ₂, x2, R2, r2⟩ := k
  refine T.bind (T.holding (T.mono (hg B C ok ((S.step x1 R1).step x2 R2) e3) fun iv h₃ k => ?_))
  obtain ⟨ρ₃, x3, R3, r3⟩ := k
  refine T.bind (T.standAt (T.bind (T.holding (T.putItem C R3 (r2.ext x3) r3 ((r1.ext x2).ext x3) e4 fun h₄ R4 x4 => ?_))))
  refine T.release (T.pure ⟨ρ₃, m, (((x1.trans x2).trans x3).trans x4).toL S.out, ?_, rfl⟩)
  exact ((((S.step x1 R1).step x2 R2)).step x3 R3).step x4 R4
/-- o[lo:hi] = e -/
noncomputable def xPutCut (f fo : Ev) (g k : Option Ev) : Ex := fun vars σ => (f vars σ).bind fun p => (fo vars p.2).bind fun q => (eOpt g vars q.2).bind fun r => (eOpt k vars r.2).bind fun s => (bound r.1).bind fun lo => (bound s.1).bind fun hi => (putCut q.1 lo hi p.1 s.2).map fun σ' => (.next, vars, σ')
theorem ExOK.putCut {f fo : Ev} {g k : Option Ev} {o x : Expr} {y z : Option Expr} {p p' q : Pos} (hc : noComp x = true) (hf : EvOK fi d f x) (ho : EvOK fi d fo o) (hg : OptOK fi d g y) (hk : OptOK fi d k z) :
    ExOK fi d (xPutCut f fo g k) (.Assign [.Subscript o (.Slice y z none p') p] x q) := by
  intro prog w os h₀ A ρ σ h L m vars vars' a σ' B C ok S e
  unfold xPutCut at e
  obtain ⟨⟨v1, σ₁⟩, e1, e⟩ := Option.bind_eq_some_iff.mp e
  obtain ⟨⟨v2, σ₂⟩, e2, e⟩ := Option.bind_eq_some_iff.mp e
  obtain ⟨⟨v3, σ₃⟩, e3, e⟩ := Option.bind_eq_some_iff.mp e
  obtain ⟨⟨v4, σ₄⟩, e4, e⟩ := Option.bind_eq_some_iff.mp e
  obtain ⟨lo, e5, e⟩ := Option.bind_eq_some_iff.mp e
  obtain ⟨hi, e6, e⟩ := Option.bind_eq_some_iff.mp e
  obtain ⟨σ₅, e7, e⟩ := Option.map_eq_some_iff.mp e
  cases e
  rw [exec_Assign_Subscript _ _ _ _ _ (swaps_no hc)]
  refine T.bind (T.standAt (T.bind (T.mono (hf B C ok S e1) fun v h₁ k => ?_)))
  obtain ⟨ρ₁, x1, R1, r1⟩ := k
  rw [assign_Subscript]
  refine T.bind (T.bind (T.holding (T.mono (ho B C ok (S.step x1 R1) e2) fun ov h₂ k => ?_)))
  obtain ⟨ρ₂, x2, R2, r2⟩ := k
  refine T.bind (T.holding (T.slice hg hk B C ok ((S.step x1 R1).step x2 R2) e3 e4 fun vl vu ρ₃ h₃ x3 S3 r3 r4 => ?_))
  refine T.bind (T.standAt (T.bind (T.holding (T.putCut C S3.rep (r2.ext x3) ((r1.ext x2).ext x3) (bound_part r3 e5) (bound_part r4 e6) e7 fun h₄ R4 x4 => ?_))))
  refine T.release (T.pure ⟨ρ₃, m, (((x1.trans x2).trans x3).trans x4).toL S.out, ?_, rfl⟩)
  exact S3.step x4 R4
end
end Mine
set_option maxRecDepth 100000
namespace Mine
/-- the format objects of the top -/
noncomputable def stOf (a : Addr) : Option (Char × UInt8 × Nat) := if a = 50 then some ('B', 66, 1) else if a = 51 then some ('H', 72, 2) else if a = 52 then some ('I', 73, 4) else if a = 53 then some ('Q', 81, 8) else if a = 54 then some ('i', 105, 4) else none
noncomputable abbrev stObj (u : UInt8) (tk : Tok) : Obj := ⟨.type "_struct.Struct", none, .fields #[.bytes #[60, u] tk], #[]⟩
theorem stAt {a : Addr} {c : Char} {u : UInt8} {n : Nat} (e : stOf a = some (c, u, n)) : (c, u, n) ∈ chars ∧ ∃ tk, ∀ P, (hK P).lookup a = some (stObj u tk) := by
  unfold stOf at e
  split at e
  · rename_i q; subst q; cases e; exact ⟨by decide, 333, fun P => by kernel_rfl⟩
  split at e
  · rename_i q; subst q; cases e; exact ⟨by decide, 336, fun P => by kernel_rfl⟩
  split at e
  · rename_i q; subst q; cases e; exact ⟨by decide, 339, fun P => by kernel_rfl⟩
  split at e
  · rename_i q; subst q; cases e; exact ⟨by decide, 342, fun P => by kernel_rfl⟩
  split at e
  · rename_i q; subst q; cases e; exact ⟨by decide, 345, fun P => by kernel_rfl⟩
  · cases e
section
variable {d : Nat}
noncomputable def selSt : AV → AH → Option Bool := fun a _ => match a with
  | .st (.ref x) => (stOf x).map fun _ => true
  | _ => none
theorem selSt_true : ∀ a σ b, selSt a σ = some b → b = true := fun a σ b e => by
  unfold selSt at e
  split at e
  · obtain ⟨_, _, rfl⟩ := Option.map_eq_some_iff.mp e; rfl
  · cases e
theorem methSt {name : Str} {id : String} (sl : Slot "_struct.Struct" name id) (ty : typeOf (.builtin id) = pure (.type "method_descriptor")) : MethOK d name selSt (.builtin id) true := by
  intro prog w os h₀ A ρ σ h a v pl B C R r e
  unfold selSt at e
  split at e
  · rename_i x
    obtain ⟨⟨c, u, n⟩, e1, _⟩ := Option.map_eq_some_iff.mp e
    obtain ⟨_, tk, hk⟩ := stAt e1
    rw [show v = .ref x from r]
    refine T.any fun s e g o => ?_
    subst e
    have hx := R.keep _ _ (B.X _ _ (hk w.params))
    exact getMethod_builtin ⟨_, hx, rfl⟩ SF.pa sl ty (fun b e => by cases e; exact ⟨_, hx, rfl⟩) ⟨g, o, rfl, rfl⟩
  · cases e
noncomputable def fUnpack : Fn := fun args σ => match args with
  | [.st (.ref x), a, .int k] => (stOf x).bind fun q => (lends a σ).bind fun b => if 0 ≤ k ∧ k.toNat + q.2.2 ≤ b.length ∧ b.length ≤ 16777216 then some (.obj σ.length, σ ++ [.tup [.int (leInt q.1 q.2.2 ((b.drop k.toNat).take q.2.2))]]) else none
  | _ => none
theorem okUnpack : FnOK d (.builtin "_struct.Struct.unpack_from") [] fUnpack := FnOK.of fun {prog w os h₀ A ρ σ h args vs c σ'} B C R r e => by
  unfold fUnpack at e
  split at e
  · rename_i x a k
    obtain ⟨⟨ch, u, n⟩, e1, e⟩ := Option.bind_eq_some_iff.mp e
    obtain ⟨b, e2, e⟩ := Option.bind_eq_some_iff.mp e
    split at e
    · rename_i hh
      cases e
      obtain ⟨v1, v2, v3, rfl, r1, r2, r3⟩ := vrels3 r
      obtain ⟨hc, tk, hk⟩ := stAt e1
      obtain ⟨t, rfl⟩ := r3
      rw [show v1 = .ref x from r1]
      have hx := R.keep _ _ (B.X _ _ (hk w.params))
      exact T.unpackFrom hx rfl rfl hc (lends_rel R r2 e2) hh.1 (by simpa using hh.2.1) (by simp; lia) fun t => VP.new R ⟨rfl, 0, [_], rfl, ⟨⟨t, rfl⟩, trivial⟩⟩ rfl
    · cases e
  · cases e
noncomputable def fPack : Fn := fun args σ => match args with
  | [.st (.ref x), .obj i, .int k, .int v] => (stOf x).bind fun q => match σ[i]? with
    | some (.ba b) => if 0 ≤ k ∧ k.toNat + q.2.2 ≤ b.length ∧ b.length ≤ 16777216 ∧ loC q.1 q.2.2 ≤ v ∧ v ≤ hiC q.1 q.2.2 then some (.none, σ.set i (.ba (putAt b k.toNat (leBytes q.2.2 v)))) else none
    | _ => none
  | _ => none
theorem okPack : FnOK d (.builtin "_struct.Struct.pack_into") [] fPack := FnOK.of fun {prog w os h₀ A ρ σ h args vs c σ'} B C R r e => by
  unfold fPack at e
  split at e
  · rename_i x i k v
    obtain ⟨⟨ch, u, n⟩, e1, e⟩ := Option.bind_eq_some_iff.mp e
    dsimp only at e
    split at e
    · rename_i b q
      split at e
      · rename_i hh
        cases e
        obtain ⟨v1, v2, v3, v4, rfl, r1, r2, r3, r4⟩ := vrels4 r
        obtain ⟨hc, tk, hk⟩ := stAt e1
        obtain ⟨t, rfl⟩ := r3
        obtain ⟨t', rfl⟩ := r4
        obtain ⟨y, hy, rfl⟩ := r2
        rw [show v1 = .ref x from r1]
        have hx := R.keep _ _ (B.X _ _ (hk w.params))
        obtain ⟨o, ho, ro⟩ := R.get q hy
        rw [show o = _ from ro] at ho
        refine T.packInto hx rfl rfl hc ho hh.1 (by simpa using hh.2.1) (by simpa using hh.2.2.1) hh.2.2.2.1 hh.2.2.2.2 fun h1 h2 q1 q2 => ?_
        subst q1 q2
        have R1 := R.set hy q rfl (f := Obj.mapBytearray fun _ => (putAt b k.toNat (List.replicate n 0)).toArray) (ao' := .ba (putAt b k.toNat (List.replicate n 0))) ho rfl rfl
        have ho1 := Heap.get?_update_self (h := h) (Obj.mapBytearray fun _ => (putAt b k.toNat (List.replicate n 0)).toArray) ho rfl
        have hl : i < σ.length := (List.getElem?_eq_some_iff.mp q).1
        have R2 := R1.set hy (List.getElem?_set_self hl) rfl (f := Obj.mapBytearray fun _ => (putAt b k.toNat (leBytes n v)).toArray) (ao' := .ba (putAt b k.toNat (leBytes n v))) ho1 rfl rfl
        rw [List.set_set] at R2
        exact ⟨ρ, (Ext.set (List.mem_of_getElem? hy)).trans (Ext.set (List.mem_of_getElem? hy)), R2, rfl⟩
      · cases e
    · cases e
  · cases e
/-- tuple(list) -/
noncomputable def fTuple : Fn := fun args σ => match args with
  | [.obj i] => match σ[i]? with
    | some (.list _ xs) => if xs.length ≤ 16777216 then some (.obj σ.length, σ ++ [.tup xs]) else none
    | _ => none
  | _ => none
theorem okTuple : FnOK d (.type "tuple") [] fTuple := FnOK.of fun {prog w os h₀ A ρ σ h args vs c σ'} B C R r e => by
  unfold fTuple at e
  split at e
  · split at e
    · rename_i xs q
      split at e
      · rename_i hz
        cases e
        obtain ⟨v, rfl, r1⟩ := vrels1 r
        obtain ⟨x, hx, rfl⟩ := r1
        obtain ⟨o, ho, hc, _, n, us, hd, ru⟩ := R.get q hx
        have hl := ru.length
        refine T.any fun s e g o' => ?_
        subst e
        refine call_tuple_list (items := us.toArray) ⟨o, ho, hc, n, hd⟩ (fun h' k => ⟨g, o', ?_⟩) (by rw [sizeLine_eq]; simp; lia)
        exact VP.trans (Ext.grown k) (VP.new (R.grown k) ⟨rfl, 0, us, rfl, ru.mono⟩ rfl)
      · cases e
    · cases e
  · cases e
/-- list.append -/
noncomputable def selList : AV → AH → Option Bool := fun a σ => match a with
  | .obj i => match σ[i]? with
    | some (.list true _) => some true
    | _ => none
  | _ => none
theorem selList_true : ∀ a σ b, selList a σ = some b → b = true := fun a σ b e => by
  unfold selList at e
  split at e
  · split at e <;> cases e; rfl
  · cases e
theorem methAppend : MethOK d "append" selList (.builtin "list.append") true := by
  intro prog w os h₀ A ρ σ h a v pl B C R r e
  unfold selList at e
  split at e
  · split at e
    · rename_i xs q
      obtain ⟨x, hx, rfl⟩ := r
      obtain ⟨o, ho, hc, hdn, n, us, hd, ru⟩ := R.get q hx
      refine T.any fun s e g o' => ?_
      subst e
      exact PySem.Calls.getMethod_list_append ho hc (hdn rfl).1 ⟨g, o', rfl, rfl⟩
    · cases e
  · cases e
noncomputable def fAppend : Fn := fun args σ => match args with
  | [.obj i, a] => match σ[i]? with
    | some (.list true xs) => if xs.length < 16777216 then some (.none, σ.set i (.list true (xs ++ [a]))) else none
    | _ => none
  | _ => none
theorem okAppend : FnOK d (.builtin "list.append") [] fAppend := FnOK.of fun {prog w os h₀ A ρ σ h args vs c σ'} B C R r e => by
  unfold fAppend at e
  split at e
  · split at e
    · rename_i xs q
      split at e
      · rename_i hz
        cases e
        obtain ⟨v, u, rfl, r1, r2⟩ := vrels2 r
        obtain ⟨x, hx, rfl⟩ := r1
        obtain ⟨o, ho, hc, hdn, n, us, hd, ru⟩ := R.get q hx
        have hl := ru.length
        refine T.any fun s e g o' => ?_
        subst e
        obtain ⟨n', hd'⟩ := Obj.data_mapSeq hd (·.push u)
        refine wpAny_call_entry slot_list_append ⟨o, ho, hc⟩ entry_list_append ?_ (args_list_append _ _)
        show wpAny _ _ (updateSeq x (·.push u) >>= fun _ => ret .none) _ _ s
        have hsz : us.toArray.size ≤ sizeLine := by rw [sizeLine_eq]; simp; lia
        exact wpAny_bind (wpAny_updateSeq ho hd (wpAny_pure ⟨.none, rfl, g, o', ρ, Ext.set (List.mem_of_getElem? hx), R.set hx q rfl ho (Obj.isFreed_of_seq hd') ⟨(Obj.cls_mapSeq ..).trans hc, fun w => mapSeq_own (hdn w), n', us ++ [u], by rw [hd']; simp, ru.append ⟨r2, trivial⟩⟩, rfl⟩))
      · cases e
    · cases e
  · cases e
/-- dict.get of an empty dict -/
noncomputable def selDict : AV → AH → Option Bool := fun a σ => match a with
  | .obj i => match σ[i]? with
    | some .edict => some true
    | _ => none
  | _ => none
theorem selDict_true : ∀ a σ b, selDict a σ = some b → b = true := fun a σ b e => by
  unfold selDict at e
  split at e
  · split at e <;> cases e; rfl
  · cases e
theorem methGet : MethOK d "get" selDict (.builtin "dict.get") true := by
  intro prog w os h₀ A ρ σ h a v pl B C R r e
  unfold selDict at e
  split at e
  · split at e
    · rename_i q
      obtain ⟨x, hx, rfl⟩ := r
      obtain ⟨o, ho, ro⟩ := R.get q hx
      rw [show o = _ from ro] at ho
      refine T.any fun s e g o' => ?_
      subst e
      exact getMethod_builtin ⟨_, ho, rfl⟩ PySem.F.plainAttrs_dict PySem.F.slot_dict_get PySem.F.type_dict_get (fun b e => by cases e; exact ⟨_, ho, rfl⟩) ⟨g, o', rfl, rfl⟩
    · cases e
  · cases e
noncomputable def fGet : Fn := fun args σ => match args with
  | [.obj i, .obj j] => match σ[i]?, σ[j]? with
    | some .edict, some (.tup ks) => (intsOf ks).map fun _ => (.none, σ)
    | _, _ => none
  | _ => none
theorem okGet : FnOK d (.builtin "dict.get") [] fGet := FnOK.of fun {prog w os h₀ A ρ σ h args vs c σ'} B C R r e => by
  unfold fGet at e
  split at e
  · split at e
    · rename_i ks q1 q2
      obtain ⟨is, e1, e⟩ := Option.map_eq_some_iff.mp e
      cases e
      obtain ⟨v, u, rfl, r1, r2⟩ := vrels2 r
      obtain ⟨x, hx, rfl⟩ := r1
      obtain ⟨y, hy, rfl⟩ := r2
      obtain ⟨o, ho, ro⟩ := R.get q1 hx
      obtain ⟨o2, ho2, ro2⟩ := R.get q2 hy
      rw [show o = _ from ro] at ho
      refine T.any fun s e g o' => ?_
      subst e
      refine call_meetsIn PySem.F.slot_dict_get ⟨_, ho, rfl⟩ PySem.F.entry_dict_get (PySem.F.args_dict_get_2 _ _) (meetsH_dict_get (tupleKind (intKind prog w)) x y (R.low hx q1 rfl)) ⟨tupleKind_room_in1 (by have := C.units; unfold cLine; lia), is, [], tupKey ho2 ro2 e1, emptyDictOf ho, g, o', VP.here R rfl rfl⟩
    · cases e
  · cases e
end
end Mine
set_option maxRecDepth 100000
namespace Mine
section
variable {fi : FI} {d : Nat}
theorem T.newSeq {prog : Program} {w : World} {os : OsState} {A : Around} {h : Heap} {c : String} {vs : List Value} {Q : Value → Heap → Prop} (hz : vs.length ≤ sizeLine) (q : Q (.ref h.objs.size) (h.push { cls := .type c, data := .seq vs.toArray })) :
    T (model prog w) os A (newObj (.type c) (.seq vs.toArray)) h Q := by
  refine T.any fun s e g o => wpAny_newObj_type ⟨g, o, ?_⟩ ?_
  · subst e; exact q
  · show vs.toArray.size ≤ sizeLine
    simpa using hz
theorem evs_length : ∀ {fs : List Ev} {vars : Vars} {σ : AH} {as : List AV} {σ' : AH}, evs fs vars σ = some (as, σ') → as.length = fs.length := by
  intro fs
  induction fs with
  | nil => intro vars σ as σ' e; cases e; rfl
  | cons f fs ih =>
    intro vars σ as σ' e
    rw [evs] at e
    obtain ⟨⟨a, σ₁⟩, e1, e⟩ := Option.bind_eq_some_iff.mp e
    obtain ⟨⟨bs, σ₂⟩, e2, e⟩ := Option.map_eq_some_iff.mp e
    cases e
    rw [List.length_cons, List.length_cons, ih e2]
/-- [..] -/
noncomputable def eList (fs : List Ev) : Ev := fun vars σ => (evs fs vars σ).map fun p => (.obj p.2.length, p.2 ++ [.list true p.1])
theorem EvOK.list {fs : List Ev} {xs : List Expr} {p : Pos} (hf : EvAll fi d fs xs) (hn : fs.length ≤ 1000) : EvOK fi d (eList fs) (.List xs p) := by
  intro prog w os h₀ A ρ σ h L m vars a σ' B C ok S e
  unfold eList at e
  obtain ⟨⟨as, σ₁⟩, e1, e⟩ := Option.map_eq_some_iff.mp e
  cases e
  rw [arm_eval_List]
  refine T.bind (T.standAt (T.bind (T.mono (T.spliced hf B C ok S e1) fun vs h₁ k => ?_)))
  obtain ⟨ρ₁, x1, R1, r1⟩ := k
  have hl := r1.length
  have hl2 := evs_length e1
  exact T.newSeq (by rw [sizeLine_eq]; lia) (VP.trans x1 (VP.new R1 ⟨rfl, fun _ => ⟨rfl, rfl⟩, 0, vs, rfl, r1.mono⟩ rfl))
/-- (.., ..) -/
noncomputable def eTup (fs : List Ev) : Ev := fun vars σ => (evs fs vars σ).map fun p => (.obj p.2.length, p.2 ++ [.tup p.1])
theorem EvOK.tup {fs : List Ev} {xs : List Expr} {k : Nat} {p : Pos} (hf : EvAll fi d fs xs) (hn : fs.length ≤ 1000) : EvOK fi d (eTup fs) (.Tuple xs k p) := by
  intro prog w os h₀ A ρ σ h L m vars a σ' B C ok S e
  unfold eTup at e
  obtain ⟨⟨as, σ₁⟩, e1, e⟩ := Option.map_eq_some_iff.mp e
  cases e
  rw [arm_eval_Tuple]
  refine T.bind (T.standAt (T.bind (T.mono (T.spliced hf B C ok S e1) fun vs h₁ k => ?_)))
  obtain ⟨ρ₁, x1, R1, r1⟩ := k
  have hl := r1.length
  have hl2 := evs_length e1
  exact T.newSeq (by rw [sizeLine_eq]; lia) (VP.trans x1 (VP.new R1 ⟨rfl, 0, vs, rfl, r1.mono⟩ rfl))
/-- {} -/
noncomputable def eDict : Ev := fun _ σ => some (.obj σ.length, σ ++ [.edict])
theorem EvOK.dict {p : Pos} : EvOK fi d eDict (.Dict [] [] p) := by
  intro prog w os h₀ A ρ σ h L m vars a σ' B C ok S e
  cases e
  rw [eval_Dict_empty]
  refine T.bind (T.standAt ?_)
  unfold newDict
  refine T.any fun s e g o => wpAny_newObj_type ⟨g, o, ?_⟩ ?_
  · subst e; exact VP.new S.rep rfl rfl
  · show 0 ≤ sizeLine + 1
    lia
/-- one of two meanings -/
theorem Op2.or {t : Value → Value → Sem Value} {f g : AV → AV → AH → Option (AV × AH)} (hf : Op2 d t f) (hg : Op2 d t g) : Op2 d t fun a b σ => (f a b σ).or (g a b σ) := by
  intro prog w os h₀ A ρ σ h a b c va vb σ' B C R hz ra rb e
  dsimp only at e
  cases q : f a b σ with
  | some x => rw [q] at e; exact hf B C R hz ra rb (q.trans e)
  | none => rw [q] at e; exact hg B C R hz ra rb e
/-- list * int, bytes * int -/
noncomputable def fRep : AV → AV → AH → Option (AV × AH) := fun a b σ => match a, b with
  | .obj i, .int n => match σ[i]? with
    | some (.list true [x]) => if 0 ≤ n ∧ n ≤ 1000 then some (.obj σ.length, σ ++ [.list true (List.replicate n.toNat x)]) else none
    | _ => none
  | .bytes b, .int n => if b ≠ [] ∧ b.length ≤ 16 ∧ -1048576 ≤ n ∧ n ≤ 1048576 then some (.bytes (List.replicate n.toNat b).flatten, σ) else none
  | _, _ => none
theorem fold_rep (v : Value) : ∀ (n : Nat) (acc : Array Value), List.foldl (fun x1 x2 => x1 ++ x2) acc (List.replicate n #[v]) = acc ++ (List.replicate n v).toArray
  | 0, acc => by simp
  | n + 1, acc => by
    rw [List.replicate_succ, List.foldl_cons, fold_rep v n]
    apply Array.ext'
    simp [List.replicate_succ]
theorem VRels.rep {ρ : List Addr} {a : AV} {v : Value} (r : VRel ρ a v) : ∀ n, VRels ρ (List.replicate n a) (List.replicate n v)
  | 0 => trivial
  | n + 1 => ⟨r, VRels.rep r n⟩
theorem opRep : Op2 d (binaryOp .Mult) fRep := by
  intro prog w os h₀ A ρ σ h a b c va vb σ' B C R hz ra rb e
  unfold fRep at e
  split at e
  · rename_i i n
    split at e
    · rename_i x q
      split at e
      · rename_i hn
        cases e
        obtain ⟨y, hy, rfl⟩ := ra
        obtain ⟨u, rfl⟩ := rb
        obtain ⟨o, ho, hc, hdn, k, us, hd, ru⟩ := R.get q hy
        match us, ru with
        | [v], ru =>
          obtain ⟨cls, dd, data, sl⟩ := o
          obtain ⟨q1, q2⟩ := hdn rfl
          dsimp only at hc hd q1 q2
          subst hc hd q1 q2
          refine T.any fun s e g o' => ?_
          subst e
          refine wpAny_binaryOp_repeat_ref (T := "list") (U := "int") (by decide) ⟨_, ho, rfl⟩ (fun s' => typeIs_int s' n u) noFill_list_mul F.fills_int_mul F.slot_int_rmul repeat_list F.slot_int_index.lookup
            (call_meets F.slot_int_rmul (typeIs_int s n u) F.entry_int_rmul (F.args_int_rmul_2 _ _) (int___rmul___int_list n u y [v].toArray k)
              ⟨ho, rfl, ⟨_, ho, rfl⟩, call_meets F.slot_list_mul ⟨_, ho, rfl⟩ F.entry_list_mul (F.args_list_mul_2 _ _)
                (AutoListH.list___mul___list_int_3 y [v].toArray k n u (by simp [Builtin.List.listFitsIndex]; lia) (by simp; lia) (by simp [Builtin.List.listTooLong, sizeLine]; lia))
                ⟨ho, g, o', ?_⟩⟩)
          have e1 : (List.foldl (fun x1 x2 => x1 ++ x2) #[] (List.replicate (if ([v].toArray).isEmpty = true then 0 else n.toNat) [v].toArray)) = (List.replicate n.toNat v).toArray := by
            rw [if_neg (by simp)]
            rw [show [v].toArray = #[v] from rfl, fold_rep]
            simp
          rw [e1]
          exact VP.new R ⟨rfl, fun _ => ⟨rfl, rfl⟩, 0, _, rfl, VRels.rep (VRel.mono ru.1) _⟩ rfl
      · cases e
    · cases e
  · split at e
    · rename_i hh
      cases e
      obtain ⟨t, rfl⟩ := ra
      obtain ⟨u, rfl⟩ := rb
      refine T.any fun s e g o' => ?_
      subst e
      exact bytes_mul_any hh.1 hh.2.2.1 hh.2.2.2 hh.2.1 fun t' k => ⟨g, o', VP.here R rfl ⟨t', rfl⟩⟩
    · cases e
  · cases e
/-- list + list -/
noncomputable def fCat : AV → AV → AH → Option (AV × AH) := fun a b σ => match a, b with
  | .obj i, .obj j => match σ[i]?, σ[j]? with
    | some (.list true xs), some (.list true ys) => if xs.length + ys.length ≤ 16777216 then some (.obj σ.length, σ ++ [.list true (xs ++ ys)]) else none
    | _, _ => none
  | _, _ => none
theorem opCat : Op2 d (binaryOp .Add) fCat := by
  intro prog w os h₀ A ρ σ h a b c va vb σ' B C R hz ra rb e
  unfold fCat at e
  split at e
  · split at e
    · rename_i xs ys q1 q2
      split at e
      · rename_i hn
        cases e
        obtain ⟨x, hx, rfl⟩ := ra
        obtain ⟨y, hy, rfl⟩ := rb
        obtain ⟨o1, ho1, hc1, hd1, n1, us, hs1, ru⟩ := R.get q1 hx
        obtain ⟨o2, ho2, hc2, hd2, n2, ws, hs2, rw'⟩ := R.get q2 hy
        obtain ⟨cls, dd, data, sl⟩ := o1
        obtain ⟨cls2, dd2, data2, sl2⟩ := o2
        obtain ⟨q3, q4⟩ := hd1 rfl
        obtain ⟨q5, q6⟩ := hd2 rfl
        dsimp only at hc1 hs1 q3 q4 hc2 hs2 q5 q6
        subst hc1 hs1 q3 q4 hc2 hs2 q5 q6
        refine T.any fun s e g o' => ?_
        subst e
        have h1 := ru.length
        have h2 := rw'.length
        refine P.add_list (items := us.toArray) (items2 := ws.toArray) ho1 ho2 ⟨g, o', ?_⟩ (by rw [sizeLine_eq]; simp; lia)
        have e1 : us.toArray ++ ws.toArray = (us ++ ws).toArray := by simp
        rw [e1]
        exact VP.new R ⟨rfl, fun _ => ⟨rfl, rfl⟩, 0, _, rfl, (ru.append rw').mono⟩ rfl
      · cases e
    · cases e
  · cases e
/-- a op b op c -/
noncomputable def bChain (f1 f2 : AV → AV → AH → Option (Bool × AH)) (f g k : Ev) : Bo := fun vars σ => (f vars σ).bind fun p => (g vars p.2).bind fun q => (f1 p.1 q.1 q.2).bind fun r => if r.1 then (k vars r.2).bind fun s => f2 q.1 s.1 s.2 else some (false, r.2)
theorem BoOK.chain {f1 f2 : AV → AV → AH → Option (Bool × AH)} {f g k : Ev} {x y z : Expr} {o1 o2 : CmpOp} {p : Pos} (h1 : Op2 d (compareOp o1) (asV f1)) (h2 : Op2 d (compareOp o2) (asV f2)) (hf : EvOK fi d f x) (hg : EvOK fi d g y) (hk : EvOK fi d k z) (hm : behindInMarks o2 z = false) :
    BoOK fi d (bChain f1 f2 f g k) (.Compare x [o1, o2] [y, z] p) := by
  intro prog w os h₀ A ρ σ h L m vars a σ' B C ok S e
  unfold bChain at e
  obtain ⟨⟨a1, σ₁⟩, e1, e⟩ := Option.bind_eq_some_iff.mp e
  obtain ⟨⟨a2, σ₂⟩, e2, e⟩ := Option.bind_eq_some_iff.mp e
  obtain ⟨⟨b1, σ₃⟩, e3, e⟩ := Option.bind_eq_some_iff.mp e
  have eq : isTrue (.Compare x [o1, o2] [y, z] p) (fi.env L) (eval (.Compare x [o1, o2] [y, z] p) (fi.env L)) = (do
      let a ← eval x (fi.env L)
      let b ← PySem.holding [a] (eval y (fi.env L))
      PySem.standAt p
      let c ← PySem.holding [a, b] (compareOp o1 a b)
      PySem.release [a, b] [c]
      if ← PySem.holding [c, b] (truthy c) then testChain p b [o2] [markedBehindIn o2 z (eval z (fi.env L))] else Pure.pure false) := rfl
  rw [eq]
  refine T.two (k := fun a b => do
      PySem.standAt p
      let c ← PySem.holding [a, b] (compareOp o1 a b)
      PySem.release [a, b] [c]
      if ← PySem.holding [c, b] (truthy c) then testChain p b [o2] [markedBehindIn o2 z (eval z (fi.env L))] else Pure.pure false) (p := Option.none) hf hg B C ok S e1 e2 fun va vb ρ₂ h₂ xx S₂ r1 r2 => ?_
  refine T.bind (T.standAt (T.bind (T.holding (T.mono (h1 B C S₂.rep S₂.base r1 r2 (c := .bool b1) (σ' := σ₃) (by unfold asV; rw [e3]; rfl)) fun v h' kk => ?_))))
  obtain ⟨ρ₃, x3, R3, r3⟩ := kk
  rw [show v = .bool b1 from r3]
  refine T.bind (T.release (T.bind (T.holding (T.pure ?_))))
  cases b1 with
  | false =>
    simp only [Bool.false_eq_true, if_false] at e ⊢
    cases e
    exact T.pure ⟨rfl, ρ₃, xx.trans x3, R3⟩
  | true =>
    simp only [if_true] at e ⊢
    obtain ⟨⟨a4, σ₄⟩, e4, e⟩ := Option.bind_eq_some_iff.mp e
    rw [markedBehindIn_of_false hm]
    unfold testChain
    refine T.bind (T.holding (T.mono (hk B C ok (S₂.step x3 R3) e4) fun vc h4 kk => ?_))
    obtain ⟨ρ₄, x4, R4, r4⟩ := kk
    refine T.bind (T.standAt (T.bind (T.operate (T.mono (h2 B C R4 R4.base ((r2.ext x3).ext x4) r4 (c := .bool a) (σ' := σ') (by unfold asV; rw [e]; rfl)) fun v5 h5 kk => ?_))))
    obtain ⟨ρ₅, x5, R5, r5⟩ := kk
    rw [show v5 = .bool a from r5]
    exact T.holding (T.pure ⟨rfl, ρ₅, ((xx.trans x3).trans x4).trans x5, R5⟩)
end
end Mine
set_option maxRecDepth 100000
namespace Mine
/-- what is still to come of an iteration -/
inductive It where
  | rng (x left step : Int) | tup (j i : Nat) | rev (j : Nat) (i : Int)
noncomputable def nextRev (xs : List AV) (j : Nat) (i : Int) : Option (Option (AV × It)) := if i = -1 then some none else if 0 ≤ i then (xs[i.toNat]?).map fun a => some (a, .rev j (i - 1)) else none
noncomputable def nextIt (it : It) (σ : AH) : Option (Option (AV × It)) := match it with
  | .rng x left step => if left ≤ 0 then some none else some (some (.int x, .rng (x + step) (left - 1) step))
  | .tup j i => match σ[j]? with
    | some (.tup xs) => some ((xs[i]?).map fun a => (a, .tup j (i + 1)))
    | _ => none
  | .rev j i => match σ[j]? with
    | some (.list _ xs) => nextRev xs j i
    | _ => none
noncomputable def ItAt (ρ : List Addr) (h : Heap) (it : Addr) : It → Prop
  | .rng x left step => IsRangeIter h it x left step
  | .tup j i => ∃ t, ρ[j]? = some t ∧ h.IsTupleIter it t i
  | .rev j i => ∃ l, ρ[j]? = some l ∧ h.IsRevIter it l i
theorem ItAt.keep {ρ ts : List Addr} {h h' : Heap} {it : Addr} (k : ∀ o, h.get? it = some o → h'.get? it = some o) : ∀ {I : It}, ItAt ρ h it I → ItAt (ρ ++ ts) h' it I
  | .rng _ _ _, e => k _ e
  | .tup _ _, ⟨t, e, o, ho, r⟩ => ⟨t, pre_get e, o, k o ho, r⟩
  | .rev _ _, ⟨t, e, o, ho, r⟩ => ⟨t, pre_get e, o, k o ho, r⟩
theorem ItAt.some {ρ : List Addr} {h : Heap} {it : Addr} : ∀ {I : It}, ItAt ρ h it I → ∃ o, h.get? it = some o
  | .rng _ _ _, e => ⟨_, e⟩
  | .tup _ _, ⟨t, e, o, ho, r⟩ => ⟨o, ho⟩
  | .rev _ _, ⟨t, e, o, ho, r⟩ => ⟨o, ho⟩
section
variable {fi : FI} {d : Nat} {prog : Program} {w : World} {os : OsState} {h₀ : Heap} {A : Around} {ρ : List Addr} {σ : AH} {h h' : Heap} {L : Addr} {m : Str → Option Value} {vars : Vars}
noncomputable def Others (it : Addr) (h h' : Heap) : Prop := ∀ b o, b ≠ it → h.get? b = some o → h'.get? b = some o
theorem T.next {it : Addr} {I : It} {r : Option (AV × It)} (C : Cond d A) (R : Rep h₀ ρ σ h) (a : ItAt ρ h it I) (e : nextIt I σ = some r) :
    T (model prog w) os A (pyNext (.ref it)) h fun v h' => Others it h h' ∧ match r with
      | none => v = none
      | some (x, J) => ∃ u, v = some u ∧ VRel ρ x u ∧ ItAt ρ h' it J := by
  have sb : ∀ {h'}, Heap.SameBut it h h' → Others it h h' := fun hs b o n e => (hs.2 b n).trans e
  have eb : ∀ {h'}, Heap.ExtBut it h h' → Others it h h' := fun hs b o n e => hs b o n e
  cases I with
  | rng x left step =>
    unfold nextIt at e
    dsimp only at e
    split at e
    · rename_i hl
      cases e
      exact T.any fun s e g o => by
        subst e
        exact wpAny_pyNext_range_end C.handled a hl fun h' hs => ⟨g, o, eb hs, rfl⟩
    · rename_i hl
      cases e
      exact T.any fun s e g o => by
        subst e
        exact wpAny_pyNext_range_item a (by lia) fun h' hit hs => ⟨g, o, sb hs, _, rfl, ⟨_, rfl⟩, hit⟩
  | tup j i =>
    obtain ⟨t, ht, a⟩ := a
    unfold nextIt at e
    dsimp only at e
    split at e
    · rename_i xs q
      obtain ⟨o, ho, hc, n, us, hd, ru⟩ := R.get q ht
      have e' := Option.some.inj e
      cases hx : xs[i]? with
      | none =>
        rw [hx] at e'
        subst e'
        have hu : us.toArray[i]? = none := by
          have := ru.length
          have h2 := List.getElem?_eq_none_iff.mp hx
          simp
          lia
        exact T.any fun s e g o' => by
          subst e
          exact wpAny_pyNext_tuple_end (items := us.toArray) C.handled a ⟨o, ho, hc, n, hd⟩ hu fun h' hs => ⟨g, o', eb hs, rfl⟩
      | some x =>
        rw [hx] at e'
        subst e'
        obtain ⟨u, hu, rv⟩ := ru.get hx
        exact T.any fun s e g o' => by
          subst e
          exact wpAny_pyNext_tuple_item (items := us.toArray) a ⟨o, ho, hc, n, hd⟩ (by simpa using hu) fun h' hit hs => ⟨g, o', sb hs, u, rfl, rv, t, ht, hit⟩
    · cases e
  | rev j i =>
    obtain ⟨l, hl, a⟩ := a
    unfold nextIt at e
    dsimp only at e
    split at e
    · rename_i w' xs q
      obtain ⟨o, ho, hc, _, n, us, hd, ru⟩ := R.get q hl
      unfold nextRev at e
      split at e
      · rename_i hi
        have e' := Option.some.inj e
        subst e'
        rw [hi] at a
        exact T.any fun s e g o' => by
          subst e
          exact wpAny_pyNext_rev_end C.handled a fun h' hs => ⟨g, o', eb hs, rfl⟩
      · split at e
        · rename_i h0
          obtain ⟨x, hx, e⟩ := Option.map_eq_some_iff.mp e
          cases e
          obtain ⟨u, hu, rv⟩ := ru.get hx
          obtain ⟨k, rfl⟩ := Int.eq_ofNat_of_zero_le h0
          exact T.any fun s e g o' => by
            subst e
            exact wpAny_pyNext_rev_item (items := us.toArray) a ⟨o, ho, hc, n, hd⟩ (by simpa using hu) fun h' hit hs => ⟨g, o', sb hs, u, rfl, rv, l, hl, hit⟩
        · cases e
    · cases e

/-- the state of a loop -/
structure LI (fi : FI) (h₀ : Heap) (ρs : List Addr) (hs : Heap) (ρ : List Addr) (σ : AH) (h : Heap) (L it : Addr) (m : Str → Option Value) (vars : Vars) : Prop where
  ext : ExtL L ρs hs ρ h
  fs : FS fi h₀ ρ σ h L m vars
  own : (hs.get? L).isSome = true
  fresh : hs.get? it = none
  base : h₀.get? it = none
  out : it ∉ ρ
  ne : it ≠ L
theorem LI.other {ρs : List Addr} {hs : Heap} {it : Addr} (l : LI fi h₀ ρs hs ρ σ h L it m vars) (k : Others it h h') : LI fi h₀ ρs hs ρ σ h' L it m vars := by
  obtain ⟨o, es, ep, ho, r⟩ := l.fs.fr.ns
  have hoL := k L o (Ne.symm l.ne) ho
  have kb : ∀ b o, h₀.get? b = some o → h'.get? b = some o := fun b o e => k b o (fun q => by rw [q, l.base] at e; cases e) (l.fs.rep.keep b o e)
  have R : Rep h₀ ρ σ h' := ⟨l.fs.rep.len, l.fs.rep.nodup, fun i a ao e1 e2 => by
      obtain ⟨o, ho, r⟩ := l.fs.rep.at_ i a ao e1 e2
      exact ⟨o, k a o (fun q => l.out (q ▸ List.mem_of_getElem? e1)) ho, r⟩, l.fs.rep.fresh, l.fs.rep.big, ⟨L, l.fs.fr.above, by rw [hoL]; rfl⟩, kb⟩
  refine ⟨⟨l.ext.pre, l.ext.new, fun b o e n1 n2 => k b o (fun q => by rw [q, l.fresh] at e; cases e) (l.ext.keep b o e n1 n2), fun _ => by rw [hoL]; rfl⟩, ⟨R, ⟨⟨o, es, ep, hoL, r⟩, kb, l.fs.fr.above⟩, l.fs.out, l.fs.vars, l.fs.cells⟩, l.own, l.fresh, l.base, l.out, l.ne⟩
theorem LI.step {ρs ρ' : List Addr} {hs : Heap} {it : Addr} {σ' : AH} {m' : Str → Option Value} {vars' : Vars} (l : LI fi h₀ ρs hs ρ σ h L it m vars) (hi : ∃ o, h.get? it = some o) (x : ExtL L ρ h ρ' h') (S : FS fi h₀ ρ' σ' h' L m' vars') :
    LI fi h₀ ρs hs ρ' σ' h' L it m' vars' := by
  refine ⟨l.ext.trans x, S, l.own, l.fresh, l.base, fun q => ?_, l.ne⟩
  obtain ⟨o, ho⟩ := hi
  rcases x.new it q with z | z
  · exact l.out z
  · rw [z] at ho; cases ho

/-- turns over an iteration -/
noncomputable def forF (k : Nat) (b : Ex) : Nat → It → Ex
  | 0, _ => fun _ _ => none
  | n + 1, I => fun vars σ => (nextIt I σ).bind fun r => match r with
    | none => some (.next, vars, σ)
    | some (a, J) => (setV k a vars).bind fun vars' => (b vars' σ).bind fun q => match q.1 with
      | .next => forF k b n J q.2.1 q.2.2
      | .cont => forF k b n J q.2.1 q.2.2
      | .brk => some (.next, q.2.1, q.2.2)
      | .ret v => some (.ret v, q.2.1, q.2.2)
theorem CT.forLoop {ρs : List Addr} {hs : Heap} {it : Addr} {k : Nat} {x : Str} {tp : Pos} {body : List Stmt} {b : Ex} (hx : fi.names[k]? = some x) (hb : ExsOK fi d b body) (B : Base w h₀) (C : Cond d A) (ok : fi.Ok) :
    ∀ (n : Nat) (I : It) {ρ : List Addr} {σ : AH} {h : Heap} {m : Str → Option Value} {vars vars' : Vars} {a : Fl} {σ' : AH}, LI fi h₀ ρs hs ρ σ h L it m vars → ItAt ρ h it I → forF k b n I vars σ = some (a, vars', σ') →
      CT (model prog w) os A (.forLoop (.Name x tp) (.ref it) body [] (fi.env L)) h (XP fi h₀ ρs hs L a vars' σ')
  | 0, I, ρ, σ, h, m, vars, vars', a, σ', l, at', e => by cases e
  | n + 1, I, ρ, σ, h, m, vars, vars', a, σ', l, at', e => by
    unfold forF at e
    obtain ⟨r, e1, e⟩ := Option.bind_eq_some_iff.mp e
    refine CT.tree rfl ?_
    show T _ _ A ((forTurn (.Name x tp) (.ref it) body [] (fi.env L)).onRaise _) _ _
    refine T.onRaise ?_
    unfold forTurn
    refine T.bind (T.standAt (T.bind (T.onRaise (T.mono (T.next C l.fs.rep at' e1) fun v h₁ q => ?_))))
    obtain ⟨ko, q⟩ := q
    have l1 := l.other ko
    cases r with
    | none =>
      dsimp only at e q
      cases e
      subst q
      refine T.pure ⟨rfl, CT.any fun s es g o => codeAny_block (wpAny_pure ⟨_, rfl, g, o, ?_⟩)⟩
      subst es
      exact ⟨ρ, m, l1.ext, l1.fs, rfl⟩
    | some p =>
      obtain ⟨av, J⟩ := p
      dsimp only at e q
      obtain ⟨u, rfl, ru, at1⟩ := q
      obtain ⟨vars1, e2, e⟩ := Option.bind_eq_some_iff.mp e
      obtain ⟨⟨fl, v2, σ₂⟩, e3, e⟩ := Option.bind_eq_some_iff.mp e
      unfold setV at e2
      split at e2
      · rename_i hi
        cases e2
        refine T.bind (T.eq (a := ()) rfl ?_)
        rw [PySem.assign_Name]
        refine T.bind (T.bind (T.standAt (T.bindName (T.store ok l1.fs hx hi ru fun h₂ m₂ S₂ x₂ => ?_))))
        have hit : ∃ o, h₁.get? it = some o := at1.some
        have l2 := l1.step hit x₂ S₂
        have at2 : ItAt ρ h₂ it J := by
          have := ItAt.keep (ts := []) (fun o ho => x₂.keep it o ho l1.out l1.ne) at1
          rwa [List.append_nil] at this
        refine T.bind (T.mono (hb B C ok S₂ e3) fun fl' h₃ q => ?_)
        obtain ⟨ρ₃, m₃, x₃, S₃, r₃⟩ := q
        have l3 := l2.step at2.some x₃ S₃
        obtain ⟨ts, hts⟩ := x₃.pre
        have at3 : ItAt ρ₃ h₃ it J := hts ▸ ItAt.keep (ts := ts) (fun o ho => x₃.keep it o ho l2.out l2.ne) at2
        cases fl with
        | next =>
          rw [show fl' = .next from r₃]
          exact T.pure ⟨rfl, CT.forLoop hx hb B C ok n J l3 at3 e⟩
        | cont =>
          rw [show fl' = .cont from r₃]
          exact T.pure ⟨rfl, CT.forLoop hx hb B C ok n J l3 at3 e⟩
        | brk =>
          cases e
          rw [show fl' = .brk from r₃]
          exact T.pure ⟨ρ₃, m₃, l3.ext, l3.fs, rfl⟩
        | ret v =>
          cases e
          obtain ⟨u', rfl, ru'⟩ := r₃
          exact T.pure ⟨ρ₃, m₃, l3.ext, l3.fs, u', rfl, ru'⟩
      · cases e2
/-- turns while a test holds -/
noncomputable def whileF (c : Bo) (b : Ex) : Nat → Ex
  | 0 => fun _ _ => none
  | n + 1 => fun vars σ => (c vars σ).bind fun p => if p.1 then (b vars p.2).bind fun q => match q.1 with
      | .next => whileF c b n q.2.1 q.2.2
      | .cont => whileF c b n q.2.1 q.2.2
      | .brk => some (.next, q.2.1, q.2.2)
      | .ret v => some (.ret v, q.2.1, q.2.2)
    else some (.next, vars, p.2)
theorem CT.whileLoop {t : Expr} {body : List Stmt} {c : Bo} {b : Ex} (hc : BoOK fi d c t) (hb : ExsOK fi d b body) (B : Base w h₀) (C : Cond d A) (ok : fi.Ok) :
    ∀ (n : Nat) {ρ : List Addr} {σ : AH} {h : Heap} {m : Str → Option Value} {vars vars' : Vars} {a : Fl} {σ' : AH}, FS fi h₀ ρ σ h L m vars → whileF c b n vars σ = some (a, vars', σ') →
      CT (model prog w) os A (.whileLoop t body [] (fi.env L)) h (XP fi h₀ ρ h L a vars' σ')
  | 0, ρ, σ, h, m, vars, vars', a, σ', S, e => by cases e
  | n + 1, ρ, σ, h, m, vars, vars', a, σ', S, e => by
    unfold whileF at e
    obtain ⟨⟨v, σ₁⟩, e1, e⟩ := Option.bind_eq_some_iff.mp e
    refine CT.tree rfl ?_
    show T _ _ A ((whileTurn t body [] (fi.env L)).onRaise _) _ _
    refine T.onRaise ?_
    unfold whileTurn
    refine T.bind (T.mono (hc B C ok S e1) fun v' h₁ q => ?_)
    obtain ⟨rfl, ρ₁, x₁, R₁⟩ := q
    have S₁ := S.step x₁ R₁
    cases v' with
    | false =>
      simp only [Bool.false_eq_true, if_false] at e ⊢
      cases e
      exact T.bind (T.pure (T.pure ⟨ρ₁, m, x₁.toL S.out, S₁, rfl⟩))
    | true =>
      simp only [if_true] at e ⊢
      obtain ⟨⟨fl, v2, σ₂⟩, e3, e⟩ := Option.bind_eq_some_iff.mp e
      refine T.bind (T.mono (hb B C ok S₁ e3) fun fl' h₃ q => ?_)
      obtain ⟨ρ₃, m₃, x₃, S₃, r₃⟩ := q
      have xx := (x₁.toL S.out).trans x₃
      cases fl with
      | next =>
        rw [show fl' = .next from r₃]
        exact T.pure ⟨rfl, CT.mono (CT.whileLoop hc hb B C ok n S₃ e) fun f h' k => XP.trans xx k⟩
      | cont =>
        rw [show fl' = .cont from r₃]
        exact T.pure ⟨rfl, CT.mono (CT.whileLoop hc hb B C ok n S₃ e) fun f h' k => XP.trans xx k⟩
      | brk =>
        cases e
        rw [show fl' = .brk from r₃]
        exact T.pure ⟨ρ₃, m₃, xx, S₃, rfl⟩
      | ret v =>
        cases e
        obtain ⟨u', rfl, ru'⟩ := r₃
        exact T.pure ⟨ρ₃, m₃, xx, S₃, u', rfl, ru'⟩
end
section
variable {fi : FI} {d : Nat}
theorem ExOK.while {t : Expr} {body : List Stmt} {c : Bo} {b : Ex} {n : Nat} {p : Pos} (hc : BoOK fi d c t) (hb : ExsOK fi d b body) : ExOK fi d (whileF c b n) (.While t body [] p) := by
  intro prog w os h₀ A ρ σ h L m vars vars' a σ' B C ok S e
  rw [exec_While]
  exact T.bind (T.standAt (T.runOwn (CT.whileLoop hc hb B C ok n S e)))
/-- an iteration begun -/
noncomputable def IP (h₀ : Heap) (ρ : List Addr) (h : Heap) (I : It) (σ' : AH) (v : Value) (h' : Heap) : Prop := ∃ ρ' it, v = .ref it ∧ Ext ρ h ρ' h' ∧ Rep h₀ ρ' σ' h' ∧ ItAt ρ' h' it I ∧ h.get? it = none ∧ it ∉ ρ'
noncomputable def IterOK (fi : FI) (d : Nat) (f : Vars → AH → Option (It × AH)) (x : Expr) : Prop :=
  ∀ ⦃prog : Program⦄ {w : World} {os : OsState} {h₀ : Heap} {A : Around} {ρ : List Addr} {σ : AH} {h : Heap} {L : Addr} {m : Str → Option Value} {vars : Vars} {I : It} {σ' : AH},
    Base w h₀ → Cond d A → fi.Ok → FS fi h₀ ρ σ h L m vars → f vars σ = some (I, σ') → T (model prog w) os A (eval x (fi.env L)) h fun v h₁ => T (model prog w) os A (pyIter v) h₁ (IP h₀ ρ h I σ')
noncomputable def xFor (k n : Nat) (f : Vars → AH → Option (It × AH)) (b : Ex) : Ex := fun vars σ => (f vars σ).bind fun p => forF k b n p.1 vars p.2
theorem ExOK.for {f : Vars → AH → Option (It × AH)} {x : Str} {it : Expr} {body : List Stmt} {k n : Nat} {b : Ex} {tp p : Pos} (hx : fi.names[k]? = some x) (hi : IterOK fi d f it) (hb : ExsOK fi d b body) (hs : ∀ env v, foldedSetIterable it env v = Pure.pure v) :
    ExOK fi d (xFor k n f b) (.For (.Name x tp) it body [] p) := by
  intro prog w os h₀ A ρ σ h L m vars vars' a σ' B C ok S e
  unfold xFor at e
  obtain ⟨⟨I, σ₁⟩, e1, e⟩ := Option.bind_eq_some_iff.mp e
  rw [exec_For]
  refine T.bind (T.standAt (T.bind (T.mono (hi B C ok S e1) fun v h₁ q => ?_)))
  refine T.bind (T.eq (hs _ _) ?_)
  refine T.bind (T.standAt (T.bind (T.holding (T.mono q fun w' h₂ q => ?_))))
  obtain ⟨ρ₂, ia, rfl, x2, R2, at2, fr, out⟩ := q
  have S2 := S.step x2 R2
  obtain ⟨oL, _, _, hoL, _⟩ := S.fr.ns
  refine T.runOwn (CT.forLoop hx hb B C ok n I ⟨x2.toL S.out, S2, by rw [hoL]; rfl, fr, ?_, out, fun q => ?_⟩ at2 e)
  · cases e' : h₀.get? ia with
    | none => rfl
    | some o => rw [S.rep.keep _ _ e'] at fr; cases fr
  · rw [q, hoL] at fr; cases fr
theorem fresh_size {h₀ h h₁ : Heap} {ρ ρ₁ : List Addr} {σ₁ : AH} (x : Ext ρ h ρ₁ h₁) (R : Rep h₀ ρ₁ σ₁ h₁) : h.get? h₁.objs.size = none ∧ h₁.objs.size ∉ ρ₁ := by
  refine ⟨?_, R.notin⟩
  cases e : h.get? h₁.objs.size with
  | none => rfl
  | some o =>
    by_cases q : h₁.objs.size ∈ ρ
    · obtain ⟨ts, hts⟩ := x.pre
      exact absurd (hts ▸ List.mem_append_left _ q) R.notin
    · have := x.keep _ _ e q
      rw [none_of_size] at this; cases this
/-- a tuple -/
noncomputable def iTup (f : Ev) : Vars → AH → Option (It × AH) := fun vars σ => (f vars σ).bind fun p => match p.1 with
  | .obj j => match p.2[j]? with
    | some (.tup _) => some (.tup j 0, p.2)
    | _ => none
  | _ => none
theorem IterOK.tup {f : Ev} {x : Expr} (hf : EvOK fi d f x) : IterOK fi d (iTup f) x := by
  intro prog w os h₀ A ρ σ h L m vars I σ' B C ok S e
  unfold iTup at e
  obtain ⟨⟨a, σ₁⟩, e1, e⟩ := Option.bind_eq_some_iff.mp e
  dsimp only at e
  split at e
  · rename_i j
    split at e
    · rename_i xs q
      cases e
      refine T.mono (hf B C ok S e1) fun v h₁ k => ?_
      obtain ⟨ρ₁, x1, R1, y, hy, rfl⟩ := k
      obtain ⟨o, ho, hc, n, us, hd, ru⟩ := R1.get q hy
      obtain ⟨f1, f2⟩ := fresh_size x1 R1
      refine T.any fun s e g o' => ?_
      subst e
      refine wpAny_pyIter_tuple (items := us.toArray) ⟨o, ho, hc, n, hd⟩ ⟨g, o', ρ₁, _, rfl, x1.trans (Ext.garbage _), R1.garbage _, ⟨y, hy, ⟨_, Heap.get?_push_size _ rfl, rfl, rfl⟩⟩, f1, f2⟩
    · cases e
  · cases e
/-- a call by a name, of a type -/
theorem T.callName {prog : Program} {w : World} {os : OsState} {h₀ : Heap} {A : Around} {ρ : List Addr} {σ : AH} {h : Heap} {L : Addr} {m : Str → Option Value} {vars : Vars} {x : Str} {ty : String} {fs : List Ev} {xs : List Expr} {as : List AV} {σ' : AH} {p q : Pos} {Q : Value → Heap → Prop}
    (hx : EvOK fi d (eSt (.type ty)) (.Name x p)) (hf : EvAll fi d fs xs) (B : Base w h₀) (C : Cond d A) (ok : fi.Ok) (S : FS fi h₀ ρ σ h L m vars) (e : evs fs vars σ = some (as, σ'))
    (k : ∀ vs ρ₁ h₁, Ext ρ h ρ₁ h₁ → Rep h₀ ρ₁ σ' h₁ → VRels ρ₁ as vs → T (model prog w) os A (PySem.call (.type ty) vs) h₁ Q) : T (model prog w) os A (eval (.Call (.Name x p) xs [] q) (fi.env L)) h Q := by
  rw [arm_eval_Call_Name']
  refine T.bind (T.mono (hx B C ok S rfl) fun fv' h₁ kk => ?_)
  obtain ⟨ρ₁, x1, R1, r1⟩ := kk
  rw [show fv' = .type ty from r1]
  obtain ⟨s1, s2, s3⟩ := star_facts (pos := q) (env := fi.env L) hf
  refine T.callWith (by rw [s1]; rfl) (T.mono (T.evalArgs (gs := []) (ms := []) hf trivial B C ok (S.step x1 R1) (by rw [List.append_nil]; exact e)) fun ar h₂ kk => ?_)
  obtain ⟨ps, kv, rfl, hl, ρ₂, x2, R2, r2⟩ := kk
  have hkv : kv = [] := List.eq_nil_of_length_eq_zero hl
  subst hkv
  rw [List.append_nil] at r2
  exact ⟨Keeps.plain fun a => (nomatch ·), k ps ρ₂ h₂ (x1.trans x2) R2 r2⟩
/-- reversed(list) -/
noncomputable def iRev (f : Ev) : Vars → AH → Option (It × AH) := fun vars σ => (evs [f] vars σ).bind fun p => match p.1 with
  | [.obj j] => match p.2[j]? with
    | some (.list _ xs) => some (.rev j ((xs.length : Int) - 1), p.2)
    | _ => none
  | _ => none
theorem IterOK.rev {f : Ev} {x : Expr} {y : Str} {p q : Pos} (hy : EvOK fi d (eSt (.type "reversed")) (.Name y p)) (hf : EvOK fi d f x) (hp : plainArg x = true) : IterOK fi d (iRev f) (.Call (.Name y p) [x] [] q) := by
  intro prog w os h₀ A ρ σ h L m vars I σ' B C ok S e
  unfold iRev at e
  obtain ⟨⟨as, σ₁⟩, e1, e⟩ := Option.bind_eq_some_iff.mp e
  dsimp only at e
  split at e
  · rename_i j
    split at e
    · rename_i w' xs q'
      cases e
      refine T.callName (fs := [f]) hy ⟨hf, hp, trivial⟩ B C ok S e1 fun vs ρ₁ h₁ x1 R1 r1 => ?_
      obtain ⟨v, rfl, r2⟩ := vrels1 r1
      obtain ⟨l, hl, rfl⟩ := r2
      obtain ⟨o, ho, hc, _, n, us, hd, ru⟩ := R1.get q' hl
      obtain ⟨f1, f2⟩ := fresh_size x1 R1
      have hlen := ru.length
      refine T.any fun s e g o' => ?_
      subst e
      refine call_reversed_list (items := us.toArray) ⟨o, ho, hc, n, hd⟩ ⟨g, o', ?_⟩
      have hrev : (s.heap.push (revObj l ((us.toArray.size : Int) - 1))).IsRevIter s.heap.objs.size l ((us.toArray.size : Int) - 1) := ⟨_, Heap.get?_push_size _ rfl, rfl, rfl⟩
      refine T.any fun s2 e2 g2 o2 => wpAny_pyIter_revIter (l := l) (i := (us.toArray.size : Int) - 1) (by rw [e2]; exact hrev) ⟨g2, o2, ?_⟩
      rw [e2]
      refine ⟨ρ₁, _, rfl, x1.trans (Ext.garbage _), R1.garbage _, ⟨l, hl, ?_⟩, f1, f2⟩
      have e3 : (us.toArray.size : Int) - 1 = (xs.length : Int) - 1 := by simp; lia
      rw [← e3]
      exact hrev
    · cases e
  · cases e
/-- range(n), range(a, b, -1) -/
noncomputable def iRange (fs : List Ev) : Vars → AH → Option (It × AH) := fun vars σ => (evs fs vars σ).bind fun p => match p.1 with
  | [.int n] => if 0 ≤ n ∧ n ≤ 1000 then some (.rng 0 n 1, p.2) else none
  | [.int 3, .int (-1), .int (-1)] => some (.rng 3 4 (-1), p.2)
  | _ => none
theorem IterOK.range {fs : List Ev} {xs : List Expr} {y : Str} {p q : Pos} (hy : EvOK fi d (eSt (.type "range")) (.Name y p)) (hf : EvAll fi d fs xs) : IterOK fi d (iRange fs) (.Call (.Name y p) xs [] q) := by
  intro prog w os h₀ A ρ σ h L m vars I σ' B C ok S e
  unfold iRange at e
  obtain ⟨⟨as, σ₁⟩, e1, e⟩ := Option.bind_eq_some_iff.mp e
  dsimp only at e
  split at e
  · rename_i n
    split at e
    · rename_i hn
      cases e
      refine T.callName hy hf B C ok S e1 fun vs ρ₁ h₁ x1 R1 r1 => ?_
      obtain ⟨v, rfl, r2⟩ := vrels1 r1
      obtain ⟨t, rfl⟩ := r2
      refine T.any fun s e g o' => ?_
      subst e
      refine call_range_1 ⟨g, o', ?_⟩
      have x2 := x1.trans (Ext.garbage (ρ := ρ₁) { cls := .type "range", data := .fields #[.int 0 s.toks, .int n t, .int 1 (s.toks + 1)] })
      have R2 := R1.garbage { cls := .type "range", data := .fields #[.int 0 s.toks, .int n t, .int 1 (s.toks + 1)] }
      obtain ⟨f1, f2⟩ := fresh_size x2 R2
      have hsize : Builtin.Range.rangeSize 0 n 1 = n := by
        unfold Builtin.Range.rangeSize
        simp
        lia
      refine T.any fun s2 e2 g2 o2 => wpAny_pyIter_range (a := 0) (b := n) (c := 1) (t := s.toks) (u := t) (v := s.toks + 1) (by rw [e2]; exact IsRange.new ..) ?_ ⟨g2, o2, ?_⟩
      · unfold Builtin.Range.small
        rw [hsize]
        simp [Builtin.Range.rangeFitsLong]
        lia
      · rw [e2, hsize]
        exact ⟨ρ₁, _, rfl, x2.trans (Ext.garbage _), R2.garbage _, Heap.get?_push_size _ rfl, f1, f2⟩
    · cases e
  · cases e
    refine T.callName hy hf B C ok S e1 fun vs ρ₁ h₁ x1 R1 r1 => ?_
    obtain ⟨v1, v2, v3, rfl, r2, r3, r4⟩ := vrels3 r1
    obtain ⟨t, rfl⟩ := r2
    obtain ⟨u, rfl⟩ := r3
    obtain ⟨v, rfl⟩ := r4
    refine T.any fun s e g o' => ?_
    subst e
    refine call_range_3 (by decide) ⟨g, o', ?_⟩
    have x2 := x1.trans (Ext.garbage (ρ := ρ₁) { cls := .type "range", data := .fields #[.int 3 t, .int (-1) u, .int (-1) v] })
    have R2 := R1.garbage { cls := .type "range", data := .fields #[.int 3 t, .int (-1) u, .int (-1) v] }
    obtain ⟨f1, f2⟩ := fresh_size x2 R2
    refine T.any fun s2 e2 g2 o2 => wpAny_pyIter_range (a := 3) (b := -1) (c := -1) (t := t) (u := u) (v := v) (by rw [e2]; exact IsRange.new ..) (by decide) ⟨g2, o2, ?_⟩
    rw [e2]
    exact ⟨ρ₁, _, rfl, x2.trans (Ext.garbage _), R2.garbage _, Heap.get?_push_size _ rfl, f1, f2⟩
  · cases e
end
end Mine
set_option maxRecDepth 100000
namespace Mine
theorem len0 {α : Type} {l : List α} (h : l.length = 0) : l = [] := List.eq_nil_of_length_eq_zero h
theorem FnOK.le {d d' : Nat} {fv : Value} {kn : List Str} {F : Fn} (hF : FnOK d fv kn F) (h : d ≤ d') : FnOK d' fv kn F := fun _ => fun B C => hF B (C.le h)
noncomputable abbrev mAdd := pure2 fAdd
noncomputable abbrev mSub := pure2 (fInt2 fun x y => some (x - y))
noncomputable abbrev mMul := pure2 (fInt2 fun x y => if x.natAbs < 2 ^ 62 ∨ y.natAbs < 2 ^ 62 then some (x * y) else none)
noncomputable abbrev mFDiv := pure2 (fInt2 fun x y => if y ≠ 0 ∧ y.natAbs < 1073741824 then some (x.fdiv y) else none)
noncomputable abbrev mMod := pure2 (fInt2 fun x y => if y ≠ 0 then some (x.fmod y) else none)
noncomputable abbrev mPow := pure2 (fInt2 fun x y => if x.natAbs < 2 ^ 62 ∧ 0 ≤ y ∧ y ≤ 1000 then some (x ^ y.toNat) else none)
noncomputable abbrev mBitAnd := pure2 (fInt2 fun x y => some (Builtin.bitAnd x y))
noncomputable abbrev mIAdd := pure2 (fInt2 fun x y => some (x + y))
noncomputable abbrev mInv := pure1 (fInt1 Builtin.bitNot)
noncomputable abbrev mNeg := pure1 (fInt1 fun x => -x)
noncomputable abbrev mLt := sCmp (cInt fun x y => decide (x < y))
noncomputable abbrev mLe := sCmp (cInt fun x y => decide (x ≤ y))
noncomputable abbrev mGt := sCmp (cInt fun x y => decide (y < x))
noncomputable abbrev mGe := sCmp (cInt fun x y => decide (y ≤ x))
noncomputable abbrev mIs := sCmp cIs
noncomputable abbrev mIsNot := sCmp fun a b => (cIs a b).map (!·)
noncomputable abbrev mEq := sEq
noncomputable abbrev mNe : AV → AV → AH → Option (Bool × AH) := fun a b σ => (cNe a b σ).map fun c => (c, σ)
section
variable {fi : FI} {d : Nat}
theorem EvOK.gblI {x : Str} {n : Int} {t : Tok} {p : Pos} (hs : StaticG x (.int n t)) (hk : fi.scope.names.lookup x = some .globalImplicit) : EvOK fi d (eConst (.int n)) (.Name x p) := by
  intro prog w os h₀ A ρ σ h L m vars a σ' B C ok S e
  cases e
  obtain ⟨_, _, _, _, t⟩ := B.top
  exact T.any fun s e g o => by
    subst e
    exact nameX_K S.fr B.X t (hs.1 _) ⟨g, o, ρ, Ext.refl, S.rep, _, rfl⟩ ok.kind hk hs.2
theorem EvAll.nil : EvAll fi d [] [] := trivial
theorem EvAll.cons {f : Ev} {fs : List Ev} {x : Expr} {xs : List Expr} (h : EvOK fi d f x) (hp : plainArg x = true) (t : EvAll fi d fs xs) : EvAll fi d (f :: fs) (x :: xs) := ⟨h, hp, t⟩
theorem EvKw.nil : EvKw fi d [] [] [] := trivial
theorem EvKw.cons {f : Ev} {fs : List Ev} {x : Expr} {n : Str} {p : Pos} {ks : List Keyword} {ms : List Str} (h : EvOK fi d f x) (t : EvKw fi d fs ks ms) : EvKw fi d (f :: fs) (⟨some n, x, p⟩ :: ks) (n :: ms) := ⟨h, rfl, t⟩
theorem KeepsOK.builtin {id : String} : KeepsOK (.builtin id) := KeepsOK.plain fun a e => by cases e
theorem KeepsOK.type {id : String} : KeepsOK (.type id) := KeepsOK.plain fun a e => by cases e
end
end Mine
set_option maxRecDepth 100000
namespace Mine
noncomputable def itemsOf (a : AV) (σ : AH) : Option (List AV) := match a with
  | .obj i => match σ[i]? with
    | some (.tup xs) => some xs
    | some (.list _ xs) => some xs
    | _ => none
  | _ => none
noncomputable def setVs : List (Nat × AV) → Vars → Option Vars
  | [], vars => some vars
  | (k, a) :: r, vars => (setV k a vars).bind fun v => setVs r v
noncomputable def namesAt (fi : FI) : List Nat → List Expr → Bool
  | [], [] => true
  | k :: ks, .Name y _ :: es => fi.names[k]? == some y && namesAt fi ks es
  | _, _ => false
section
variable {fi : FI} {d : Nat} {prog : Program} {w : World} {os : OsState} {h₀ : Heap} {A : Around} {ρ : List Addr} {σ : AH} {h : Heap} {L : Addr} {m : Str → Option Value} {vars : Vars}
theorem T.unpackItems {a : AV} {v : Value} {xs : List AV} (C : Cond d A) (R : Rep h₀ ρ σ h) (r : VRel ρ a v) (e : itemsOf a σ = some xs) :
    T (model prog w) os A (PySem.unpackItems v xs.length none) h fun items h' => (∀ b o, h.get? b = some o → h'.get? b = some o) ∧ VRels ρ xs items := by
  unfold itemsOf at e
  split at e
  · split at e
    · rename_i q
      cases e
      obtain ⟨x, hx, rfl⟩ := r
      obtain ⟨o, ho, hc, n, us, hd, ru⟩ := R.get q hx
      refine T.any fun s e g o' => ?_
      subst e
      have hl := ru.length
      rw [hl, show us.length = us.toArray.size by simp]
      exact unpackItems_tuple C.handled ⟨o, ho, hc, n, hd⟩ fun h' hs => ⟨g, o', fun b ob e => hs b ob (Nat.ne_of_lt (Heap.lt_size e)) e, ru⟩
    · rename_i q
      cases e
      obtain ⟨x, hx, rfl⟩ := r
      obtain ⟨o, ho, hc, _, n, us, hd, ru⟩ := R.get q hx
      refine T.any fun s e g o' => ?_
      subst e
      have hl := ru.length
      rw [hl, show us.length = us.toArray.size by simp]
      exact kun_itemsOf C.handled ⟨o, ho, hc, n, hd⟩ fun h' hs => ⟨g, o', fun b ob e => hs b ob (Nat.ne_of_lt (Heap.lt_size e)) e, ru⟩
    · cases e
  · cases e
theorem T.storeNames (ok : fi.Ok) {Q : Unit → Heap → Prop} (ks : List Nat) : ∀ (es : List Expr) {xs : List AV} {us : List Value} {h : Heap} {m : Str → Option Value} {vars vars' : Vars}, namesAt fi ks es = true → VRels ρ xs us → FS fi h₀ ρ σ h L m vars → setVs (ks.zip xs) vars = some vars' → ks.length = xs.length →
    (∀ h' m', FS fi h₀ ρ σ h' L m' vars' → ExtL L ρ h ρ h' → Q () h') → T (model prog w) os A (assignInOrder ((assignEach es (fi.env L)).map (·.2)) us) h Q := by
  induction ks with
  | nil =>
    intro es xs us h m vars vars' hn r S e hl k
    have hx : xs = [] := List.eq_nil_of_length_eq_zero hl.symm
    subst hx
    cases e
    cases us with
    | nil =>
      cases es with
      | nil => exact T.pure (k h m S ExtL.refl)
      | cons _ _ => cases hn
    | cons _ _ => exact r.elim
  | cons j ks ih =>
    intro es xs us h m vars vars' hn r S e hl k
    cases es with
    | nil => cases hn
    | cons e0 es =>
      cases xs with
      | nil => cases hl
      | cons x xs =>
        cases us with
        | nil => exact r.elim
        | cons u us =>
          cases e0 with
          | Name y p =>
            have hn : (fi.names[j]? == some y && namesAt fi ks es) = true := hn
            simp only [Bool.and_eq_true, beq_iff_eq] at hn
            rw [List.zip_cons_cons, setVs] at e
            obtain ⟨v1, e1, e⟩ := Option.bind_eq_some_iff.mp e
            unfold setV at e1
            split at e1
            · rename_i hi
              cases e1
              show T _ _ _ (do PySem.holding us (assign (.Name y p) (fi.env L) u); assignInOrder ((assignEach es (fi.env L)).map (·.2)) us) _ _
              rw [PySem.assign_Name]
              refine T.bind (T.holding (T.bind (T.standAt (T.bindName (T.store ok S hn.1 hi r.1 fun h' m' S' x' => ?_)))))
              exact ih es hn.2 r.2 S' e (by simpa using hl) fun h2 m2 S2 x2 => k h2 m2 S2 (x'.trans x2)
            · cases e1
          | _ => exact absurd (show false = true from hn) (by decide)
theorem T.storeBack (ok : fi.Ok) {Q : Unit → Heap → Prop} : ∀ {ps : List (Nat × AV)} {us : List Value} {ρ : List Addr} {h : Heap} {m : Str → Option Value} {vars vars' : Vars}, (∀ p ∈ ps, p.1 < fi.names.length) → VRels ρ (ps.map (·.2)) us → FS fi h₀ ρ σ h L m vars → setVs ps vars = some vars' →
    (∀ h' m', FS fi h₀ ρ σ h' L m' vars' → ExtL L ρ h ρ h' → Q () h') → T (model prog w) os A (assignInOrder ((ps.map fun p => fi.names.getD p.1 "").map fun n => PySem.bindName (fi.env L) n) us) h Q := by
  intro ps
  induction ps with
  | nil =>
    intro us ρ h m vars vars' _ r S e k
    cases us with
    | nil => cases e; exact T.pure (k h m S ExtL.refl)
    | cons u us => exact r.elim
  | cons q ps ih =>
    obtain ⟨j, x⟩ := q
    intro us ρ h m vars vars' hn r S e k
    cases us with
    | nil => exact r.elim
    | cons u us =>
    rw [setVs] at e
    obtain ⟨v1, e1, e⟩ := Option.bind_eq_some_iff.mp e
    unfold setV at e1
    split at e1
    · rename_i hi
      cases e1
      have hj := hn (j, x) (.head _)
      have hx : fi.names[j]? = some (fi.names.getD j "") := by
        rw [List.getD_eq_getElem?_getD, List.getElem?_eq_getElem hj]; rfl
      show T _ _ _ (do PySem.holding us (PySem.bindName (fi.env L) (fi.names.getD j "") u); assignInOrder ((ps.map fun p => fi.names.getD p.1 "").map fun n => PySem.bindName (fi.env L) n) us) _ _
      refine T.bind (T.holding (T.bindName (T.store ok S hx hi r.1 fun h' m' S' x' => ?_)))
      exact ih (fun p hp => hn p (.tail _ hp)) r.2 S' e fun h2 m2 S2 x2 => k h2 m2 S2 (x'.trans x2)
    · cases e1
end
section
variable {fi : FI} {d : Nat}
/-- names, one for each item -/
noncomputable def xUnp (ks : List Nat) (f : Ev) : Ex := fun vars σ => (f vars σ).bind fun p => (itemsOf p.1 p.2).bind fun xs => if xs.length = ks.length then (setVs (ks.zip xs) vars).map fun v => (.next, v, p.2) else none
theorem namesAt_length {fi : FI} : ∀ {ks : List Nat} {es : List Expr}, namesAt fi ks es = true → ks.length = es.length ∧ ∀ env, (assignEach es env).length = ks.length ∧ (assignEach es env).findIdx? (·.1) = none := by
  intro ks
  induction ks with
  | nil =>
    intro es h
    cases es with
    | nil => exact ⟨rfl, fun _ => ⟨rfl, rfl⟩⟩
    | cons x es => cases h
  | cons k ks ih =>
    intro es h
    cases es with
    | nil => cases h
    | cons x es =>
    cases x with
    | Name y p =>
      have h : (fi.names[k]? == some y && namesAt fi ks es) = true := h
      simp only [Bool.and_eq_true] at h
      obtain ⟨a, b⟩ := ih h.2
      refine ⟨by rw [List.length_cons, List.length_cons, a], fun env => ⟨?_, ?_⟩⟩
      · show ((false, assign (.Name y p) env) :: assignEach es env).length = _
        rw [List.length_cons, List.length_cons, (b env).1]
      · show ((false, assign (.Name y p) env) :: assignEach es env).findIdx? (·.1) = none
        rw [List.findIdx?_cons, (b env).2]
        rfl
    | _ => cases h
theorem VRels.rev {ρ : List Addr} : ∀ {as : List AV} {vs : List Value}, VRels ρ as vs → VRels ρ as.reverse vs.reverse
  | [], [], _ => trivial
  | a :: as, v :: vs, h => by
    rw [List.reverse_cons, List.reverse_cons]
    exact VRels.append (VRels.rev h.2) ⟨h.1, trivial⟩
theorem ExOK.unp {ks : List Nat} {es : List Expr} {x : Expr} {f : Ev} {k : Nat} {p q : Pos} (hn : namesAt fi ks es = true) (hs : ∀ l env, swapsWithSole [.Tuple es k p] x l env = Pure.pure false) (hw : ∀ L, swappedStores [.Tuple es k p] x (fi.env L) = Pure.pure none) (hf : EvOK fi d f x) :
    ExOK fi d (xUnp ks f) (.Assign [.Tuple es k p] x q) := by
  intro prog w os h₀ A ρ σ h L m vars vars' a σ' B C ok S e
  unfold xUnp at e
  obtain ⟨⟨v1, σ₁⟩, e1, e⟩ := Option.bind_eq_some_iff.mp e
  obtain ⟨xs, e2, e⟩ := Option.bind_eq_some_iff.mp e
  split at e
  · rename_i hl
    obtain ⟨v2, e3, e⟩ := Option.map_eq_some_iff.mp e
    cases e
    rw [exec_Assign]
    refine T.bind (T.standAt (T.bind (T.eq (hs _ _) ?_)))
    refine T.ite_false (by decide) ?_
    refine T.bind (T.mono (hf B C ok S e1) fun v h₁ kk => ?_)
    obtain ⟨ρ₁, x1, R1, r1⟩ := kk
    refine T.bind (T.eq (hw L) ?_)
    show T _ _ _ (do assignAll v [assign (.Tuple es k p) (fi.env L)]; Pure.pure PySem.Flow.next) _ _
    refine T.bind ?_
    show T _ _ _ (assign (.Tuple es k p) (fi.env L) v) _ _
    show T _ _ _ (do PySem.standAt p; PySem.unpack v (assignEach es (fi.env L))) _ _
    refine T.bind (T.standAt ?_)
    unfold PySem.unpack
    obtain ⟨n1, n2⟩ := namesAt_length hn
    rw [(n2 (fi.env L)).1, (n2 (fi.env L)).2, ← hl]
    refine T.bind (T.holding (T.mono (T.unpackItems C R1 r1 e2) fun items h₂ kk => ?_))
    obtain ⟨kp, ru⟩ := kk
    have S2 := S.step (x1.trans (Ext.grown kp)) (R1.grown kp)
    refine T.storeNames ok ks es hn ru S2 e3 hl.symm fun h3 m3 S3 x3 => ?_
    exact T.pure ⟨ρ₁, m3, ((x1.trans (Ext.grown kp)).toL S.out).trans x3, S3, rfl⟩
  · cases e
/-- the same, in the order of a row of names that are stored last first -/
noncomputable def xUnpS (ks : List Nat) (f : Ev) : Ex := fun vars σ => (f vars σ).bind fun p => (itemsOf p.1 p.2).bind fun xs => if xs.length = ks.length then (setVs (ks.zip xs).reverse vars).map fun v => (.next, v, p.2) else none
theorem ExOK.unpS {ks : List Nat} {es : List Expr} {x : Expr} {f : Ev} {k : Nat} {p q : Pos} (hn : (ks.all fun k => decide (k < fi.names.length)) = true) (hs : ∀ l env, swapsWithSole [.Tuple es k p] x l env = Pure.pure false) (hw : ∀ L, swappedStores [.Tuple es k p] x (fi.env L) = Pure.pure (some (ks.map fun k => fi.names.getD k ""))) (hf : EvOK fi d f x) :
    ExOK fi d (xUnpS ks f) (.Assign [.Tuple es k p] x q) := by
  intro prog w os h₀ A ρ σ h L m vars vars' a σ' B C ok S e
  unfold xUnpS at e
  obtain ⟨⟨v1, σ₁⟩, e1, e⟩ := Option.bind_eq_some_iff.mp e
  obtain ⟨xs, e2, e⟩ := Option.bind_eq_some_iff.mp e
  split at e
  · rename_i hl
    obtain ⟨v2, e3, e⟩ := Option.map_eq_some_iff.mp e
    cases e
    rw [exec_Assign]
    refine T.bind (T.standAt (T.bind (T.eq (hs _ _) ?_)))
    refine T.ite_false (by decide) ?_
    refine T.bind (T.mono (hf B C ok S e1) fun v h₁ kk => ?_)
    obtain ⟨ρ₁, x1, R1, r1⟩ := kk
    refine T.bind (T.eq (hw L) ?_)
    show T _ _ _ (do
      PySem.rule "assign.swapped-stores"
      let items ← PySem.unpackItems v (ks.map fun k => fi.names.getD k "").length none
      assignInOrder ((ks.map fun k => fi.names.getD k "").reverse.map fun n => PySem.bindName (fi.env L) n) items.reverse
      Pure.pure PySem.Flow.next) _ _
    refine T.bind (T.rule ?_)
    rw [List.length_map, ← hl]
    refine T.bind (T.mono (T.unpackItems C R1 r1 e2) fun items h₂ kk => ?_)
    obtain ⟨kp, ru⟩ := kk
    have S2 := S.step (x1.trans (Ext.grown kp)) (R1.grown kp)
    have em : ((ks.zip xs).reverse).map (·.2) = xs.reverse := by
      rw [List.map_reverse]
      congr 1
      exact List.map_snd_zip (by lia)
    have en : ((ks.zip xs).reverse.map fun p => fi.names.getD p.1 "") = (ks.map fun k => fi.names.getD k "").reverse := by
      rw [List.map_reverse]
      congr 1
      rw [show (fun p : Nat × AV => fi.names.getD p.1 "") = (fun k => fi.names.getD k "") ∘ (·.1) from rfl, ← List.map_map, List.map_fst_zip (by lia)]
    rw [← en]
    refine T.bind (T.storeBack ok (fun p hp => ?_) (by rw [em]; exact ru.rev) S2 e3 fun h3 m3 S3 x3 => ?_)
    · have := (List.of_mem_zip (List.mem_reverse.mp hp)).1
      exact of_decide_eq_true (List.all_eq_true.mp hn _ this)
    · exact T.pure ⟨ρ₁, m3, ((x1.trans (Ext.grown kp)).toL S.out).trans x3, S3, rfl⟩
  · cases e
end
end Mine
set_option maxRecDepth 100000
namespace Mine
theorem strTypes (P : Params) : (hK P).lookup 268 = some { cls := .type "tuple", data := .seq [Value.type "str"].toArray } := by kernel_rfl
theorem binTypes (P : Params) : (hK P).lookup 269 = some { cls := .type "tuple", data := .seq [Value.type "bytes", Value.type "bytearray"].toArray } := by kernel_rfl
theorem ty_str : typeOf (.type "str") = pure (.type "type") := by show Pure.pure _ = _; rw [show ((Manifest.find? "str").elim "type" (·.metatype)) = "type" from by decide +kernel]
theorem ty_bytes : typeOf (.type "bytes") = pure (.type "type") := by show Pure.pure _ = _; rw [show ((Manifest.find? "bytes").elim "type" (·.metatype)) = "type" from by decide +kernel]
theorem ty_ba : typeOf (.type "bytearray") = pure (.type "type") := by show Pure.pure _ = _; rw [show ((Manifest.find? "bytearray").elim "type" (·.metatype)) = "type" from by decide +kernel]
theorem sub_str : isSubtype (.type "str") (.type "str") = pure true := by rw [isSubtype_type]; kernel_rfl
section
variable {d : Nat}
/-- isinstance(.., string_types), isinstance(.., binary_types) -/
noncomputable def fIsi : Fn := fun args σ => match args with
  | [.str _, .st (.ref 268)] => some (.bool true, σ)
  | [.bytes _, .st (.ref 269)] => some (.bool true, σ)
  | _ => none
theorem okIsi : FnOK d (.builtin "isinstance") [] fIsi := FnOK.of fun {prog w os h₀ A ρ σ h args vs c σ'} B C R r e => by
  unfold fIsi at e
  split at e
  · cases e
    obtain ⟨v, u, rfl, r1, r2⟩ := vrels2 r
    obtain ⟨t, rfl⟩ := r1
    rw [show u = .ref 268 from r2]
    refine T.any fun s e g o => ?_
    subst e
    have hx := R.keep _ _ (B.X _ _ (strTypes w.params))
    refine call_function_meets F.kind_isinstance F.plain_isinstance F.entry_isinstance (F.args_isinstance_2 _ _) (isinstance_tuple (Tx := "str") (cs := [Value.type "str"]) (vs := [true]) ⟨Answers.of_true ty_str sub_str, trivial⟩)
      ⟨typeIs_str s _ _, hx, fun tk => ⟨g, o, VP.here R rfl rfl⟩⟩
  · cases e
    obtain ⟨v, u, rfl, r1, r2⟩ := vrels2 r
    obtain ⟨t, rfl⟩ := r1
    rw [show u = .ref 269 from r2]
    refine T.any fun s e g o => ?_
    subst e
    have hx := R.keep _ _ (B.X _ _ (binTypes w.params))
    refine call_function_meets F.kind_isinstance F.plain_isinstance F.entry_isinstance (F.args_isinstance_2 _ _) (isinstance_tuple (Tx := "bytes") (cs := [Value.type "bytes", Value.type "bytearray"]) (vs := [true, false]) ⟨Answers.of_true ty_bytes F.bm_sub, ?_, trivial⟩)
      ⟨PySem.W.typeIs_bytes s _ _, hx, fun tk => ⟨g, o, VP.here R rfl rfl⟩⟩
    intro dep tk prog w A R' s' hs
    obtain ⟨h, gg, dd, tt, oo⟩ := s'
    exact isinstance_nested_false_bytes (by decide) ty_ba BF.sub_bytes_ba (hs.2 (tt + 1))
  · cases e
end
open PySem.Builtin.Struct in
noncomputable abbrev fmt4 : Format := ⟨true, false, [⟨'B', 1, 0, 1⟩, ⟨'B', 1, 1, 1⟩, ⟨'B', 1, 2, 1⟩, ⟨'B', 1, 3, 1⟩], 4, 4⟩
theorem parse4 : Builtin.Struct.parse #[62, 66, 66, 66, 66] = Pure.pure fmt4 := by kernel_rfl
theorem unpacked4 {id : String} (b : Array UInt8) : Builtin.Struct.unpacked id fmt4 b 0 =
    (mkInt (Builtin.Struct.natOf true (b.extract 0 1)) >>= fun v0 => mkInt (Builtin.Struct.natOf true (b.extract 1 2)) >>= fun v1 => mkInt (Builtin.Struct.natOf true (b.extract 2 3)) >>= fun v2 => mkInt (Builtin.Struct.natOf true (b.extract 3 4)) >>= fun v3 => newTuple [v0, v1, v2, v3]) := by kernel_rfl
namespace SF
theorem entry_unp : entryFor table "_struct.unpack" = some Builtin.«_struct.unpack» := entryFor_of_tree (by kernel_rfl)
theorem args_unp (a b : Value) : argsOk "_struct.unpack" ⟨[a, b], []⟩ := by unfold argsOk; kernel_rfl
end SF
section
variable {d : Nat}
noncomputable def fUnpack4 : Fn := fun args σ => match args with
  | [.str s, .bytes [x0, x1, x2, x3]] => if s = ">BBBB" then some (.obj σ.length, σ ++ [.tup [.int x0.toNat, .int x1.toNat, .int x2.toNat, .int x3.toNat]]) else none
  | _ => none
theorem nat1 (x0 x1 x2 x3 : UInt8) : Builtin.Struct.natOf true ((#[x0, x1, x2, x3] : Array UInt8).extract 0 1) = x0.toNat ∧ Builtin.Struct.natOf true ((#[x0, x1, x2, x3] : Array UInt8).extract 1 2) = x1.toNat ∧ Builtin.Struct.natOf true ((#[x0, x1, x2, x3] : Array UInt8).extract 2 3) = x2.toNat ∧ Builtin.Struct.natOf true ((#[x0, x1, x2, x3] : Array UInt8).extract 3 4) = x3.toNat := by
  refine ⟨?_, ?_, ?_, ?_⟩ <;> (unfold Builtin.Struct.natOf Builtin.Memoryview.littleEndian; simp)
theorem okUnpack4 : FnOK d (.builtin "_struct.unpack") [] fUnpack4 := FnOK.of fun {prog w os h₀ A ρ σ h args vs c σ'} B C R r e => by
  unfold fUnpack4 at e
  split at e
  · rename_i s x0 x1 x2 x3
    split at e
    · rename_i hs
      subst hs
      cases e
      obtain ⟨v, u, rfl, r1, r2⟩ := vrels2 r
      obtain ⟨t, rfl⟩ := r1
      obtain ⟨t', rfl⟩ := r2
      refine T.call (CT.callFun (by decide +kernel) (by decide +kernel) SF.entry_unp (by decide +kernel) (SF.args_unp _ _) ?_)
      unfold Builtin.«_struct.unpack»
      refine T.bind (T.eq (a := ()) rfl ?_)
      refine T.bind (T.eq (a := ()) rfl ?_)
      refine T.bind (T.eq (a := fmt4) (by kernel_rfl) ?_)
      unfold Builtin.Struct.unpackExact
      refine T.bind (T.bytesLike (b := #[x0, x1, x2, x3]) (.inl ⟨t', rfl⟩) ?_)
      refine T.bind (T.pure ?_)
      refine T.ite_false (show ¬ ((4 != 4) = true) by decide) ?_
      rw [unpacked4]
      obtain ⟨n0, n1, n2, n3⟩ := nat1 x0 x1 x2 x3
      refine T.bind (T.bind (T.mkInt fun t0 => T.bind (T.mkInt fun t1 => T.bind (T.mkInt fun t2 => T.bind (T.mkInt fun t3 => ?_)))))
      unfold newTuple
      refine T.newSeq (by rw [sizeLine_eq]; simp) (T.pure ⟨_, rfl, VP.new R ⟨rfl, 0, _, rfl, ⟨⟨t0, by rw [n0]⟩, ⟨t1, by rw [n1]⟩, ⟨t2, by rw [n2]⟩, ⟨t3, by rw [n3]⟩, trivial⟩⟩ rfl⟩)
    · cases e
  · cases e
end
end Mine
set_option maxRecDepth 100000
namespace Mine
/-- a text's octets -/
noncomputable def encU (s : Str) : List UInt8 := s.cps.toList.flatMap Str.utf8Of
theorem enc_fold (l : List Nat) : ∀ acc : Array UInt8, l.foldl (fun acc y => acc ++ (Str.utf8Of y).toArray) acc = acc ++ (l.flatMap Str.utf8Of).toArray := by
  induction l with
  | nil => intro acc; simp
  | cons x l ih => intro acc; rw [List.foldl_cons, ih]; simp
theorem encode_tree2 (x : Str) (t u : Tok) : Builtin.«str.encode» ⟨[.str x t, .str "utf-8" u], []⟩ = (do ret (← Builtin._codecs.encodeRoad "str.encode" (.str x t) x (Str.ofString "utf-8") none)) := by kernel_rfl
section
variable {prog : Program} {w : World} {A : Around} {os : OsState} {h : Heap}
theorem T.rangeTwo {β : Type} {f : Nat → β → Sem (ForInStep β)} {init b1 : β} {n : Nat} {Q : β → Heap → Prop} (h0 : n = 0 → Q init h) (h1 : 0 < n → T (model prog w) os A (f 0 init) h fun r h' => r = .yield b1 ∧ h' = h) (h2 : 0 < n → T (model prog w) os A (f 1 b1) h fun r h' => r = .done b1 ∧ h' = h) (q : 0 < n → Q b1 h) :
    T (model prog w) os A (forIn [:n] init f) h Q := by
  rw [Std.Legacy.Range.forIn_eq_forIn_range']
  simp only [Std.Legacy.Range.size, Nat.sub_zero, Nat.add_sub_cancel, Nat.div_one]
  cases n with
  | zero => exact T.pure (h0 rfl)
  | succ n =>
    show T _ _ _ (forIn (0 :: List.range' 1 n 1) init fun a r => f a r) _ _
    rw [List.forIn_cons]
    refine T.bind (T.mono (h1 (Nat.succ_pos _)) fun r h' z => ?_)
    obtain ⟨rfl, rfl⟩ := z
    cases n with
    | zero => exact T.pure (q (Nat.succ_pos _))
    | succ n =>
      show T _ _ _ (forIn (1 :: List.range' 2 n 1) b1 fun a r => f a r) _ _
      rw [List.forIn_cons]
      refine T.bind (T.mono (h2 (Nat.succ_pos _)) fun r h' z => ?_)
      obtain ⟨rfl, rfl⟩ := z
      exact T.pure (q (Nat.succ_pos _))
open PySem.Builtin._codecs in
theorem T.encodeNarrow {id : String} {self : Value} {s : Str} {Q : Array UInt8 → Heap → Prop} (hs : ∀ c ∈ s.cps.toList, Str.isSurrogate c = false) (hz : (encU s).length ≤ sizeLine) (q : Q (encU s).toArray h) :
    T (model prog w) os A (PySem.Builtin._codecs.encodeNarrow id utf8Codec none self s) h Q := by
  have hbad : s.cps.findIdx? utf8Codec.bad = none := by
    rw [Array.findIdx?_eq_none_iff]
    intro c hc
    exact hs c (by simpa using hc)
  have hex : s.cps.extract 0 s.cps.size = s.cps := by simp
  unfold PySem.Builtin._codecs.encodeNarrow
  refine T.bind (T.rangeTwo (b1 := ⟨s.cps.size, (encU s).toArray, {}⟩) (fun hn => ?_) (fun hn => ?_) (fun hn => ?_) fun hn => T.pure q)
  · have e : encU s = [] := by
      unfold encU
      have : s.cps.size = 0 := hn
      rw [Array.size_eq_zero_iff.mp this]; rfl
    rw [e] at q
    exact T.pure q
  · have hl : 0 < s.cps.size := hn
    refine T.ite_false (show ¬ ((#[] : Array UInt8).size > sizeLine) by simp) ?_
    dsimp only
    rw [Array.getElem?_eq_getElem hl]
    refine T.ite_true ?_ ?_
    · rw [Bool.not_eq_true']
      exact hs _ (by simp)
    · refine T.pure ⟨?_, rfl⟩
      rw [hex, hbad]
      simp only [Option.getD_none, hex, Nat.zero_add]
      rw [← Array.foldl_toList, show (List.foldl (fun acc y => acc ++ (utf8Codec.bytesOf y).toArray) #[] s.cps.toList) = (encU s).toArray from (enc_fold _ _).trans (by simp [encU])]
  · refine T.ite_false (show ¬ ((encU s).toArray.size > sizeLine) by simp; exact hz) ?_
    dsimp only
    rw [Array.getElem?_eq_none (Nat.le_refl _)]
    exact T.pure ⟨rfl, rfl⟩
end
section
variable {d : Nat}
noncomputable def selStr : AV → AH → Option Bool := fun a _ => match a with
  | .str _ => some true
  | _ => none
theorem selStr_true : ∀ a σ b, selStr a σ = some b → b = true := fun a σ b e => by
  unfold selStr at e
  split at e <;> cases e
  rfl
theorem methEnc : MethOK d "encode" selStr (.builtin "str.encode") true := by
  intro prog w os h₀ A ρ σ h a v pl B C R r e
  unfold selStr at e
  split at e
  · obtain ⟨t, rfl⟩ := r
    refine T.any fun s e g o => ?_
    subst e
    exact getMethod_builtin (typeIs_str s _ t) PySem.F.plainAttrs_str PySem.F.slot_str_encode PySem.F.type_str_encode (fun b e => by cases e) ⟨g, o, rfl, rfl⟩
  · cases e
noncomputable def fEnc : Fn := fun args σ => match args with
  | [.str s, .str u] => if u = "utf-8" ∧ (s.cps.toList.all fun c => !Str.isSurrogate c) = true ∧ (encU s).length ≤ 16777216 then some (.bytes (encU s), σ) else none
  | _ => none
theorem okEnc : FnOK d (.builtin "str.encode") [] fEnc := FnOK.of fun {prog w os h₀ A ρ σ h args vs c σ'} B C R r e => by
  unfold fEnc at e
  split at e
  · rename_i s u
    split at e
    · rename_i hh
      obtain ⟨rfl, hs, hz⟩ := hh
      cases e
      obtain ⟨v, w', rfl, r1, r2⟩ := vrels2 r
      obtain ⟨t, rfl⟩ := r1
      obtain ⟨t', rfl⟩ := r2
      refine T.call (CT.callBuiltin PySem.F.slot_str_encode.plain PySem.F.entry_str_encode (by decide +kernel) (T.any fun s e g o' => PySem.F.slot_str_encode.check _ _ _ _ _ _ _ _ (typeIs_str s _ t) (PySem.F.args_str_encode_2 _ _) ⟨g, o', e⟩) ?_)
      rw [encode_tree2, encodeRoad_utf8]
      refine T.bind (T.bind (T.encodeNarrow (fun c hc => by simpa using List.all_eq_true.mp hs c hc) (by rw [sizeLine_eq]; exact hz) ?_))
      refine T.any fun s e g o => wpAny_mkBytes ⟨g, o, ?_⟩ (by rw [sizeLine_eq]; simpa using hz)
      subst e
      exact T.pure ⟨_, rfl, VP.here R rfl ⟨_, rfl⟩⟩
    · cases e
  · cases e
end
end Mine
set_option maxRecDepth 100000
namespace Mine

theorem g_Builder : StaticG "Builder" (.ref 749) := ⟨fun P => by kernel_rfl, by decide⟩
theorem b_bytearray : StaticB "bytearray" (.type "bytearray") := ⟨fun P => by kernel_rfl, by kernel_rfl, by decide, by decide⟩
theorem g_UOffsetTFlags : StaticG "UOffsetTFlags" (.ref 146) := ⟨fun P => by kernel_rfl, by decide⟩
theorem b_len : StaticB "len" (.builtin "len") := ⟨fun P => by kernel_rfl, by kernel_rfl, by decide, by decide⟩
theorem b_min : StaticB "min" (.builtin "min") := ⟨fun P => by kernel_rfl, by kernel_rfl, by decide, by decide⟩
theorem m_builder_GrowByteBuffer : MethK .builder "GrowByteBuffer" 405 := fun P => by kernel_rfl
theorem m_builder_Pad : MethK .builder "Pad" 426 := fun P => by kernel_rfl
theorem g_enforce_number : StaticG "enforce_number" (.ref 167) := ⟨fun P => by kernel_rfl, by decide⟩
theorem g_Write : StaticG "Write" (.ref 181) := ⟨fun P => by kernel_rfl, by decide⟩
theorem g_SOffsetTFlags : StaticG "SOffsetTFlags" (.ref 134) := ⟨fun P => by kernel_rfl, by decide⟩
theorem g_soffset : StaticG "soffset" (.ref 54) := ⟨fun P => by kernel_rfl, by decide⟩
theorem g_uoffset : StaticG "uoffset" (.ref 52) := ⟨fun P => by kernel_rfl, by decide⟩
theorem m_builder_Prep : MethK .builder "Prep" 433 := fun P => by kernel_rfl
theorem m_builder_Offset : MethK .builder "Offset" 419 := fun P => by kernel_rfl
theorem m_builder_PlaceSOffsetT : MethK .builder "PlaceSOffsetT" 738 := fun P => by kernel_rfl
theorem m_builder_PlaceUOffsetT : MethK .builder "PlaceUOffsetT" 745 := fun P => by kernel_rfl
theorem m_builder_assertNested : MethK .builder "assertNested" 490 := fun P => by kernel_rfl
theorem m_builder_assertNotNested : MethK .builder "assertNotNested" 497 := fun P => by kernel_rfl
theorem g_string_types : StaticG "string_types" (.ref 268) := ⟨fun P => by kernel_rfl, by decide⟩
theorem b_isinstance : StaticB "isinstance" (.builtin "isinstance") := ⟨fun P => by kernel_rfl, by kernel_rfl, by decide, by decide⟩
theorem g_binary_types : StaticG "binary_types" (.ref 269) := ⟨fun P => by kernel_rfl, by decide⟩
theorem g_Uint8Flags : StaticG "Uint8Flags" (.ref 64) := ⟨fun P => by kernel_rfl, by decide⟩
theorem m_builder_Place : MethK .builder "Place" 724 := fun P => by kernel_rfl
theorem m_builder_EndVector : MethK .builder "EndVector" 462 := fun P => by kernel_rfl
theorem g_Int32Flags : StaticG "Int32Flags" (.ref 120) := ⟨fun P => by kernel_rfl, by decide⟩
theorem m_builder_Prepend : MethK .builder "Prepend" 542 := fun P => by kernel_rfl
theorem g_VOffsetTFlags : StaticG "VOffsetTFlags" (.ref 158) := ⟨fun P => by kernel_rfl, by decide⟩
theorem m_builder_Slot : MethK .builder "Slot" 511 := fun P => by kernel_rfl
theorem m_builder_PrependUOffsetTRelative : MethK .builder "PrependUOffsetTRelative" 447 := fun P => by kernel_rfl
theorem m_builder_PrependSOffsetTRelative : MethK .builder "PrependSOffsetTRelative" 440 := fun P => by kernel_rfl
theorem b_reversed : StaticB "reversed" (.type "reversed") := ⟨fun P => by kernel_rfl, by kernel_rfl, by decide, by decide⟩
theorem b_tuple : StaticB "tuple" (.type "tuple") := ⟨fun P => by kernel_rfl, by kernel_rfl, by decide, by decide⟩
theorem m_builder_PrependVOffsetT : MethK .builder "PrependVOffsetT" 717 := fun P => by kernel_rfl
theorem g_VtableMetadataFields : StaticG "VtableMetadataFields" (.int 2 836) := ⟨fun P => by kernel_rfl, by decide⟩
theorem m_builder_Head : MethK .builder "Head" 412 := fun P => by kernel_rfl
theorem m_builder_WriteVtable : MethK .builder "WriteVtable" 391 := fun P => by kernel_rfl
theorem g_FILE_IDENTIFIER_LENGTH : StaticG "FILE_IDENTIFIER_LENGTH" (.int 4 582) := ⟨fun P => by kernel_rfl, by decide⟩
theorem g_unpack : StaticG "unpack" (.builtin "_struct.unpack") := ⟨fun P => by kernel_rfl, by decide⟩
theorem b_range : StaticB "range" (.type "range") := ⟨fun P => by kernel_rfl, by kernel_rfl, by decide, by decide⟩
theorem m_builder_PrependInt32 : MethK .builder "PrependInt32" 696 := fun P => by kernel_rfl
theorem m_builder_Builder__Finish : MethK .builder "_Builder__Finish" 519 := fun P => by kernel_rfl
theorem g_Get_encode : StaticG "Get_encode" (.ref 174) := ⟨fun P => by kernel_rfl, by decide⟩
theorem m_table_Get : MethK .table "Get" 245 := fun P => by kernel_rfl
theorem b_bytes : StaticB "bytes" (.type "bytes") := ⟨fun P => by kernel_rfl, by kernel_rfl, by decide, by decide⟩
theorem m_table_Offset : MethK .table "Offset" 203 := fun P => by kernel_rfl
theorem g_int32 : StaticG "int32" (.ref 54) := ⟨fun P => by kernel_rfl, by decide⟩
theorem g_GetBufferIdentifier : StaticG "GetBufferIdentifier" (.ref 777) := ⟨fun P => by kernel_rfl, by decide⟩
theorem len1 {α : Type} {l : List α} (h : l.length = 1) : ∃ a0, l = [a0] := by
  cases l with
  | nil => cases h
  | cons a t =>
    obtain rfl := len0 (Nat.succ.inj h)
    exact ⟨a, rfl⟩
theorem len2 {α : Type} {l : List α} (h : l.length = 2) : ∃ a0 a1, l = [a0, a1] := by
  cases l with
  | nil => cases h
  | cons a t =>
    obtain ⟨a1, rfl⟩ := len1 (Nat.succ.inj h)
    exact ⟨a, a1, rfl⟩
theorem len3 {α : Type} {l : List α} (h : l.length = 3) : ∃ a0 a1 a2, l = [a0, a1, a2] := by
  cases l with
  | nil => cases h
  | cons a t =>
    obtain ⟨a1, a2, rfl⟩ := len2 (Nat.succ.inj h)
    exact ⟨a, a1, a2, rfl⟩
theorem len4 {α : Type} {l : List α} (h : l.length = 4) : ∃ a0 a1 a2 a3, l = [a0, a1, a2, a3] := by
  cases l with
  | nil => cases h
  | cons a t =>
    obtain ⟨a1, a2, a3, rfl⟩ := len3 (Nat.succ.inj h)
    exact ⟨a, a1, a2, a3, rfl⟩
theorem len5 {α : Type} {l : List α} (h : l.length = 5) : ∃ a0 a1 a2 a3 a4, l = [a0, a1, a2, a3, a4] := by
  cases l with
  | nil => cases h
  | cons a t =>
    obtain ⟨a1, a2, a3, a4, rfl⟩ := len4 (Nat.succ.inj h)
    exact ⟨a, a1, a2, a3, a4, rfl⟩
theorem len6 {α : Type} {l : List α} (h : l.length = 6) : ∃ a0 a1 a2 a3 a4 a5, l = [a0, a1, a2, a3, a4, a5] := by
  cases l with
  | nil => cases h
  | cons a t =>
    obtain ⟨a1, a2, a3, a4, a5, rfl⟩ := len5 (Nat.succ.inj h)
    exact ⟨a, a1, a2, a3, a4, a5, rfl⟩
theorem len7 {α : Type} {l : List α} (h : l.length = 7) : ∃ a0 a1 a2 a3 a4 a5 a6, l = [a0, a1, a2, a3, a4, a5, a6] := by
  cases l with
  | nil => cases h
  | cons a t =>
    obtain ⟨a1, a2, a3, a4, a5, a6, rfl⟩ := len6 (Nat.succ.inj h)
    exact ⟨a, a1, a2, a3, a4, a5, a6, rfl⟩
noncomputable def fi_enforce_number : FI := { addr := 167, qual := "enforce_number", scope := stScope (topSt 19), cd := .ref 166, names := ["n", "flags"] }
theorem def_enforce_number : DefOK fi_enforce_number (stParams (topSt 19)) (stPart (topSt 19)) .none .none :=
  ⟨⟨.type "function", none, "enforce_number", .none, .str "flatbuffers.number_types" 349, none, .none, #[], fun P => by kernel_rfl⟩, fun P => by kernel_rfl, ⟨by kernel_rfl, by decide +kernel, by decide⟩, by kernel_rfl, by kernel_rfl, by kernel_rfl, fun _ => rfl⟩
noncomputable def x_enforce_number : Ex := (xSeq (xIf (bAnd (bCmp mIs (eAttr (eVar 1) (semCls "min_val")) (eConst .none)) (bCmp mIs (eAttr (eVar 1) (semCls "max_val")) (eConst .none))) (xSeq (xRet (eConst .none)) xNil) xNil) (xSeq (xIf (bNot (bChain mLe mLe (eAttr (eVar 1) (semCls "min_val")) (eVar 0) (eAttr (eVar 1) (semCls "max_val")))) xNo xNil) xNil))
theorem body_enforce_number : ExsOK fi_enforce_number 0 x_enforce_number (stPart (topSt 19)) :=
  (ExsOK.cons (ExOK.ite (BoOK.and (BoOK.cmp opIs (EvOK.attr (by rfl) (attrCls clsOK) (EvOK.var (by rfl))) EvOK.none (by rfl)) (BoOK.cmp opIs (EvOK.attr (by rfl) (attrCls clsOK) (EvOK.var (by rfl))) EvOK.none (by rfl))) (ExsOK.cons ExOK.retNone ExsOK.nil) ExsOK.nil) (ExsOK.cons (ExOK.ite (BoOK.not (BoOK.chain opLe opLe (EvOK.attr (by rfl) (attrCls clsOK) (EvOK.var (by rfl))) (EvOK.var (by rfl)) (EvOK.attr (by rfl) (attrCls clsOK) (EvOK.var (by rfl))) (by rfl))) ExsOK.no ExsOK.nil) ExsOK.nil))
noncomputable def f_enforce_number : Fn := fDef [] (fFun fi_enforce_number 2 x_enforce_number)
theorem ct_enforce_number : FnCT 1 167 [] f_enforce_number := FnCT.def (da := []) (dv := []) def_enforce_number body_enforce_number (fun _ => trivial) (by decide) fun w s name doc pm an ct ps ks X h1 h2 => by
  obtain rfl := len0 h2
  have g : ps.length = 2 := h1
  obtain ⟨p0, p1, rfl⟩ := len2 g
  exact BindsTo.of_eq (by kernel_rfl)
theorem ok_enforce_number : FnOK 1 (.ref 167) [] f_enforce_number := ct_enforce_number.ok
noncomputable def fi_Get : FI := { addr := 174, qual := "Get", scope := stScope (topSt 22), cd := .ref 173, names := ["packer_type", "buf", "head"] }
theorem def_Get : DefOK fi_Get (stParams (topSt 22)) (stPart (topSt 22)) .none .none :=
  ⟨⟨.type "function", none, "Get", .none, .str "flatbuffers.encode" 580, none, .none, #[], fun P => by kernel_rfl⟩, fun P => by kernel_rfl, ⟨by kernel_rfl, by decide +kernel, by decide⟩, by kernel_rfl, by kernel_rfl, by kernel_rfl, fun _ => rfl⟩
noncomputable def x_Get : Ex := (xSeq (xRet (eBin gItem (eMeth (eVar 0) selSt ([(eVar 1), (eVar 2)] ++ []) fUnpack) (eConst (.int 0)))) xNil)
theorem body_Get : ExsOK fi_Get 0 x_Get (stPart (topSt 22)) :=
  (ExsOK.cons (ExOK.ret (EvOK.sub okItem (EvOK.meth (EvOK.var (by rfl)) (by rfl) (methSt SF.slot_unpack SF.ty_unpack) selSt_true KeepsOK.builtin okUnpack (EvAll.cons (EvOK.var (by rfl)) (by rfl) (EvAll.cons (EvOK.var (by rfl)) (by rfl) EvAll.nil)) EvKw.nil (by rfl) (by decide)) EvOK.int)) ExsOK.nil)
noncomputable def f_Get : Fn := fDef [] (fFun fi_Get 3 x_Get)
theorem ct_Get : FnCT 1 174 [] f_Get := FnCT.def (da := []) (dv := []) def_Get body_Get (fun _ => trivial) (by decide) fun w s name doc pm an ct ps ks X h1 h2 => by
  obtain rfl := len0 h2
  have g : ps.length = 3 := h1
  obtain ⟨p0, p1, p2, rfl⟩ := len3 g
  exact BindsTo.of_eq (by kernel_rfl)
theorem ok_Get : FnOK 1 (.ref 174) [] f_Get := ct_Get.ok
noncomputable def fi_Write : FI := { addr := 181, qual := "Write", scope := stScope (topSt 24), cd := .ref 180, names := ["packer_type", "buf", "head", "n"] }
theorem def_Write : DefOK fi_Write (stParams (topSt 24)) (stPart (topSt 24)) .none .none :=
  ⟨⟨.type "function", none, "Write", .none, .str "flatbuffers.encode" 580, none, .none, #[], fun P => by kernel_rfl⟩, fun P => by kernel_rfl, ⟨by kernel_rfl, by decide +kernel, by decide⟩, by kernel_rfl, by kernel_rfl, by kernel_rfl, fun _ => rfl⟩
noncomputable def x_Write : Ex := (xSeq (xExpr (eMeth (eVar 0) selSt ([(eVar 1), (eVar 2), (eVar 3)] ++ []) fPack)) xNil)
theorem body_Write : ExsOK fi_Write 0 x_Write (stPart (topSt 24)) :=
  (ExsOK.cons (ExOK.expr (by rfl) (EvOK.meth (EvOK.var (by rfl)) (by rfl) (methSt SF.slot_pack SF.ty_pack) selSt_true KeepsOK.builtin okPack (EvAll.cons (EvOK.var (by rfl)) (by rfl) (EvAll.cons (EvOK.var (by rfl)) (by rfl) (EvAll.cons (EvOK.var (by rfl)) (by rfl) EvAll.nil))) EvKw.nil (by rfl) (by decide))) ExsOK.nil)
noncomputable def f_Write : Fn := fDef [] (fFun fi_Write 4 x_Write)
theorem ct_Write : FnCT 1 181 [] f_Write := FnCT.def (da := []) (dv := []) def_Write body_Write (fun _ => trivial) (by decide) fun w s name doc pm an ct ps ks X h1 h2 => by
  obtain rfl := len0 h2
  have g : ps.length = 4 := h1
  obtain ⟨p0, p1, p2, p3, rfl⟩ := len4 g
  exact BindsTo.of_eq (by kernel_rfl)
theorem ok_Write : FnOK 1 (.ref 181) [] f_Write := ct_Write.ok
noncomputable def fi_Builder__init : FI := { addr := 363, qual := "Builder.__init__", scope := stScope (inSt 37 3), cd := .ref 362, names := ["self", "initialSize", "msg"] }
theorem def_Builder__init : DefOK fi_Builder__init (stParams (inSt 37 3)) (stPart (inSt 37 3)) (.ref 356) .none :=
  ⟨⟨.type "function", none, "__init__", .none, .str "flatbuffers.builder" 726, none, .none, #[], fun P => by kernel_rfl⟩, fun P => by kernel_rfl, ⟨by kernel_rfl, by decide +kernel, by decide⟩, by kernel_rfl, by kernel_rfl, by kernel_rfl, fun _ => rfl⟩
noncomputable def x_Builder__init : Ex := (xSeq (xIf (bNot (bChain mLe mLe (eConst (.int 0)) (eVar 1) (eAttr (eSt (.ref 749)) (semCls "MAX_BUFFER_SIZE")))) xNo xNil) (xSeq (xSet .builder 0 (eVar 0) (eCall ([(eVar 1)] ++ []) fBa)) (xSeq (xSet .builder 1 (eVar 0) (eConst .none)) (xSeq (xSet .builder 4 (eVar 0) (eMeth (eSt (.ref 146)) selPy ([(eVar 1)] ++ []) fInt)) (xSeq (xSet .builder 5 (eVar 0) (eConst (.int 1))) (xSeq (xSet .builder 7 (eVar 0) (eConst .none)) (xSeq (xSet .builder 10 (eVar 0) eDict) (xSeq (xSet .builder 6 (eVar 0) (eConst (.bool false))) (xSeq (xSet .builder 3 (eVar 0) (eConst (.bool false))) (xSeq (xSet .builder 8 (eVar 0) (eConst .none)) (xSeq (xSet .builder 2 (eVar 0) (eConst (.bool false))) xNil)))))))))))
theorem body_Builder__init : ExsOK fi_Builder__init 0 x_Builder__init (stPart (inSt 37 3)) :=
  (ExsOK.cons (ExOK.ite (BoOK.not (BoOK.chain opLe opLe EvOK.int (EvOK.var (by rfl)) (EvOK.attr (by rfl) (attrCls clsOK) (EvOK.gbl g_Builder (by kernel_rfl))) (by rfl))) ExsOK.no ExsOK.nil) (ExsOK.cons (ExOK.set sBytes (by rfl) (EvOK.var (by rfl)) (EvOK.call (EvOK.blt b_bytearray (by kernel_rfl)) KeepsOK.type okBa (EvAll.cons (EvOK.var (by rfl)) (by rfl) EvAll.nil) EvKw.nil)) (ExsOK.cons (ExOK.set sVtable (by rfl) (EvOK.var (by rfl)) EvOK.none) (ExsOK.cons (ExOK.set sHead (by rfl) (EvOK.var (by rfl)) (EvOK.meth (EvOK.gbl g_UOffsetTFlags (by kernel_rfl)) (by rfl) (methPy intOK) selPy_false KeepsOK.type okInt (EvAll.cons (EvOK.var (by rfl)) (by rfl) EvAll.nil) EvKw.nil (by rfl) (by decide))) (ExsOK.cons (ExOK.set sMinalign (by rfl) (EvOK.var (by rfl)) EvOK.int) (ExsOK.cons (ExOK.set sObjectEnd (by rfl) (EvOK.var (by rfl)) EvOK.none) (ExsOK.cons (ExOK.set sVtables (by rfl) (EvOK.var (by rfl)) EvOK.dict) (ExsOK.cons (ExOK.set sNested (by rfl) (EvOK.var (by rfl)) EvOK.bool) (ExsOK.cons (ExOK.set sForce (by rfl) (EvOK.var (by rfl)) EvOK.bool) (ExsOK.cons (ExOK.set sShared (by rfl) (EvOK.var (by rfl)) EvOK.none) (ExsOK.cons (ExOK.set sFinished (by rfl) (EvOK.var (by rfl)) EvOK.bool) ExsOK.nil)))))))))))
noncomputable def f_Builder__init : Fn := fDef [] (fFun fi_Builder__init 2 x_Builder__init)
theorem dflt_Builder__init (P : Params) : (hK P).lookup 356 = some ⟨.type "tuple", none, .seq #[.int 1024 867] 0, #[]⟩ := by kernel_rfl
theorem ct_Builder__init : FnCT 1 363 [] f_Builder__init := FnCT.def (da := []) (dv := []) def_Builder__init body_Builder__init (fun _ => trivial) (by decide) fun w s name doc pm an ct ps ks X h1 h2 => by
  obtain rfl := len0 h2
  have g : ps.length = 2 := h1
  obtain ⟨p0, p1, rfl⟩ := len2 g
  exact BindsTo.of_defaults rfl (X _ _ (dflt_Builder__init _)) rfl rfl rfl
theorem ok_Builder__init : FnOK 1 (.ref 363) [] f_Builder__init := ct_Builder__init.ok
noncomputable def f_newBuilder : Fn := fNew .builder f_Builder__init
theorem ok_newBuilder : FnOK 2 (.ref 749) [] f_newBuilder := FnOK.new newBuilder ok_Builder__init
noncomputable def fi_Builder_Head : FI := { addr := 412, qual := "Builder.Head", scope := stScope (inSt 37 10), cd := .ref 411, names := ["self"] }
theorem def_Builder_Head : DefOK fi_Builder_Head (stParams (inSt 37 10)) (stPart (inSt 37 10)) .none .none :=
  ⟨⟨.type "function", none, "Head", .none, .str "flatbuffers.builder" 726, none, .none, #[], fun P => by kernel_rfl⟩, fun P => by kernel_rfl, ⟨by kernel_rfl, by decide +kernel, by decide⟩, by kernel_rfl, by kernel_rfl, by kernel_rfl, fun _ => rfl⟩
noncomputable def x_Builder_Head : Ex := (xSeq (xRet (eAttr (eVar 0) (semSlot .builder 4))) xNil)
theorem body_Builder_Head : ExsOK fi_Builder_Head 0 x_Builder_Head (stPart (inSt 37 10)) :=
  (ExsOK.cons (ExOK.ret (EvOK.attr (by rfl) (attrSlot sHead) (EvOK.var (by rfl)))) ExsOK.nil)
noncomputable def f_Builder_Head : Fn := fDef [] (fFun fi_Builder_Head 1 x_Builder_Head)
theorem ct_Builder_Head : FnCT 1 412 [] f_Builder_Head := FnCT.def (da := []) (dv := []) def_Builder_Head body_Builder_Head (fun _ => trivial) (by decide) fun w s name doc pm an ct ps ks X h1 h2 => by
  obtain rfl := len0 h2
  have g : ps.length = 1 := h1
  obtain ⟨p0, rfl⟩ := len1 g
  exact BindsTo.of_eq (by kernel_rfl)
theorem ok_Builder_Head : FnOK 1 (.ref 412) [] f_Builder_Head := ct_Builder_Head.ok
noncomputable def fi_Builder_Offset : FI := { addr := 419, qual := "Builder.Offset", scope := stScope (inSt 37 11), cd := .ref 418, names := ["self"] }
theorem def_Builder_Offset : DefOK fi_Builder_Offset (stParams (inSt 37 11)) (stPart (inSt 37 11)) .none .none :=
  ⟨⟨.type "function", none, "Offset", .none, .str "flatbuffers.builder" 726, none, .none, #[], fun P => by kernel_rfl⟩, fun P => by kernel_rfl, ⟨by kernel_rfl, by decide +kernel, by decide⟩, by kernel_rfl, by kernel_rfl, by kernel_rfl, fun _ => rfl⟩
noncomputable def x_Builder_Offset : Ex := (xSeq (xRet (eBin mSub (eCall ([(eAttr (eVar 0) (semSlot .builder 0))] ++ []) fLen) (eAttr (eVar 0) (semSlot .builder 4)))) xNil)
theorem body_Builder_Offset : ExsOK fi_Builder_Offset 0 x_Builder_Offset (stPart (inSt 37 11)) :=
  (ExsOK.cons (ExOK.ret (EvOK.bin opSub (EvOK.call (EvOK.blt b_len (by kernel_rfl)) KeepsOK.builtin okLen (EvAll.cons (EvOK.attr (by rfl) (attrSlot sBytes) (EvOK.var (by rfl))) (by rfl) EvAll.nil) EvKw.nil) (EvOK.attr (by rfl) (attrSlot sHead) (EvOK.var (by rfl))))) ExsOK.nil)
noncomputable def f_Builder_Offset : Fn := fDef [] (fFun fi_Builder_Offset 1 x_Builder_Offset)
theorem ct_Builder_Offset : FnCT 1 419 [] f_Builder_Offset := FnCT.def (da := []) (dv := []) def_Builder_Offset body_Builder_Offset (fun _ => trivial) (by decide) fun w s name doc pm an ct ps ks X h1 h2 => by
  obtain rfl := len0 h2
  have g : ps.length = 1 := h1
  obtain ⟨p0, rfl⟩ := len1 g
  exact BindsTo.of_eq (by kernel_rfl)
theorem ok_Builder_Offset : FnOK 1 (.ref 419) [] f_Builder_Offset := ct_Builder_Offset.ok
noncomputable def fi_Builder_assertNested : FI := { addr := 490, qual := "Builder.assertNested", scope := stScope (inSt 37 21), cd := .ref 489, names := ["self"] }
theorem def_Builder_assertNested : DefOK fi_Builder_assertNested (stParams (inSt 37 21)) (stPart (inSt 37 21)) .none .none :=
  ⟨⟨.type "function", none, "assertNested", .none, .str "flatbuffers.builder" 726, none, .none, #[], fun P => by kernel_rfl⟩, fun P => by kernel_rfl, ⟨by kernel_rfl, by decide +kernel, by decide⟩, by kernel_rfl, by kernel_rfl, by kernel_rfl, fun _ => rfl⟩
noncomputable def x_Builder_assertNested : Ex := (xSeq (xIf (bNot (bVal (eAttr (eVar 0) (semSlot .builder 6)))) xNo xNil) xNil)
theorem body_Builder_assertNested : ExsOK fi_Builder_assertNested 0 x_Builder_assertNested (stPart (inSt 37 21)) :=
  (ExsOK.cons (ExOK.ite (BoOK.not (BoOK.val (by rfl) (EvOK.attr (by rfl) (attrSlot sNested) (EvOK.var (by rfl))))) ExsOK.no ExsOK.nil) ExsOK.nil)
noncomputable def f_Builder_assertNested : Fn := fDef [] (fFun fi_Builder_assertNested 1 x_Builder_assertNested)
theorem ct_Builder_assertNested : FnCT 1 490 [] f_Builder_assertNested := FnCT.def (da := []) (dv := []) def_Builder_assertNested body_Builder_assertNested (fun _ => trivial) (by decide) fun w s name doc pm an ct ps ks X h1 h2 => by
  obtain rfl := len0 h2
  have g : ps.length = 1 := h1
  obtain ⟨p0, rfl⟩ := len1 g
  exact BindsTo.of_eq (by kernel_rfl)
theorem ok_Builder_assertNested : FnOK 1 (.ref 490) [] f_Builder_assertNested := ct_Builder_assertNested.ok
noncomputable def fi_Builder_assertNotNested : FI := { addr := 497, qual := "Builder.assertNotNested", scope := stScope (inSt 37 22), cd := .ref 496, names := ["self"] }
theorem def_Builder_assertNotNested : DefOK fi_Builder_assertNotNested (stParams (inSt 37 22)) (stPart (inSt 37 22)) .none .none :=
  ⟨⟨.type "function", none, "assertNotNested", .none, .str "flatbuffers.builder" 726, none, .none, #[], fun P => by kernel_rfl⟩, fun P => by kernel_rfl, ⟨by kernel_rfl, by decide +kernel, by decide⟩, by kernel_rfl, by kernel_rfl, by kernel_rfl, fun _ => rfl⟩
noncomputable def x_Builder_assertNotNested : Ex := (xSeq (xIf (bVal (eAttr (eVar 0) (semSlot .builder 6))) xNo xNil) xNil)
theorem body_Builder_assertNotNested : ExsOK fi_Builder_assertNotNested 0 x_Builder_assertNotNested (stPart (inSt 37 22)) :=
  (ExsOK.cons (ExOK.ite (BoOK.val (by rfl) (EvOK.attr (by rfl) (attrSlot sNested) (EvOK.var (by rfl)))) ExsOK.no ExsOK.nil) ExsOK.nil)
noncomputable def f_Builder_assertNotNested : Fn := fDef [] (fFun fi_Builder_assertNotNested 1 x_Builder_assertNotNested)
theorem ct_Builder_assertNotNested : FnCT 1 497 [] f_Builder_assertNotNested := FnCT.def (da := []) (dv := []) def_Builder_assertNotNested body_Builder_assertNotNested (fun _ => trivial) (by decide) fun w s name doc pm an ct ps ks X h1 h2 => by
  obtain rfl := len0 h2
  have g : ps.length = 1 := h1
  obtain ⟨p0, rfl⟩ := len1 g
  exact BindsTo.of_eq (by kernel_rfl)
theorem ok_Builder_assertNotNested : FnOK 1 (.ref 497) [] f_Builder_assertNotNested := ct_Builder_assertNotNested.ok
noncomputable def fi_Builder_GrowByteBuffer : FI := { addr := 405, qual := "Builder.GrowByteBuffer", scope := stScope (inSt 37 9), cd := .ref 404, names := ["self", "newSize", "bytes2", "msg"] }
theorem def_Builder_GrowByteBuffer : DefOK fi_Builder_GrowByteBuffer (stParams (inSt 37 9)) (stPart (inSt 37 9)) .none .none :=
  ⟨⟨.type "function", none, "GrowByteBuffer", .none, .str "flatbuffers.builder" 726, none, .none, #[], fun P => by kernel_rfl⟩, fun P => by kernel_rfl, ⟨by kernel_rfl, by decide +kernel, by decide⟩, by kernel_rfl, by kernel_rfl, by kernel_rfl, fun _ => rfl⟩
noncomputable def x_Builder_GrowByteBuffer : Ex := (xSeq (xIf (bCmp mEq (eCall ([(eAttr (eVar 0) (semSlot .builder 0))] ++ []) fLen) (eAttr (eSt (.ref 749)) (semCls "MAX_BUFFER_SIZE"))) xNo xNil) (xSeq (xAsg 1 (eCall ([(eBin mMul (eCall ([(eAttr (eVar 0) (semSlot .builder 0))] ++ []) fLen) (eConst (.int 2))), (eAttr (eSt (.ref 749)) (semCls "MAX_BUFFER_SIZE"))] ++ []) fMin)) (xSeq (xIf (bCmp mEq (eVar 1) (eConst (.int 0))) (xSeq (xAsg 1 (eConst (.int 1))) xNil) xNil) (xSeq (xAsg 2 (eCall ([(eVar 1)] ++ []) fBa)) (xSeq (xPutCut (eAttr (eVar 0) (semSlot .builder 0)) (eVar 2) (some (eBin mSub (eVar 1) (eCall ([(eAttr (eVar 0) (semSlot .builder 0))] ++ []) fLen))) none) (xSeq (xSet .builder 0 (eVar 0) (eVar 2)) xNil))))))
theorem body_Builder_GrowByteBuffer : ExsOK fi_Builder_GrowByteBuffer 0 x_Builder_GrowByteBuffer (stPart (inSt 37 9)) :=
  (ExsOK.cons (ExOK.ite (BoOK.cmp opEq (EvOK.call (EvOK.blt b_len (by kernel_rfl)) KeepsOK.builtin okLen (EvAll.cons (EvOK.attr (by rfl) (attrSlot sBytes) (EvOK.var (by rfl))) (by rfl) EvAll.nil) EvKw.nil) (EvOK.attr (by rfl) (attrCls clsOK) (EvOK.gbl g_Builder (by kernel_rfl))) (by rfl)) ExsOK.no ExsOK.nil) (ExsOK.cons (ExOK.asg (by rfl) (by rfl) (EvOK.call (EvOK.blt b_min (by kernel_rfl)) KeepsOK.builtin okMin (EvAll.cons (EvOK.bin opMul (EvOK.call (EvOK.blt b_len (by kernel_rfl)) KeepsOK.builtin okLen (EvAll.cons (EvOK.attr (by rfl) (attrSlot sBytes) (EvOK.var (by rfl))) (by rfl) EvAll.nil) EvKw.nil) EvOK.int) (by rfl) (EvAll.cons (EvOK.attr (by rfl) (attrCls clsOK) (EvOK.gbl g_Builder (by kernel_rfl))) (by rfl) EvAll.nil)) EvKw.nil)) (ExsOK.cons (ExOK.ite (BoOK.cmp opEq (EvOK.var (by rfl)) EvOK.int (by rfl)) (ExsOK.cons (ExOK.asg (by rfl) (by rfl) EvOK.int) ExsOK.nil) ExsOK.nil) (ExsOK.cons (ExOK.asg (by rfl) (by rfl) (EvOK.call (EvOK.blt b_bytearray (by kernel_rfl)) KeepsOK.type okBa (EvAll.cons (EvOK.var (by rfl)) (by rfl) EvAll.nil) EvKw.nil)) (ExsOK.cons (ExOK.putCut (by rfl) (EvOK.attr (by rfl) (attrSlot sBytes) (EvOK.var (by rfl))) (EvOK.var (by rfl)) (OptOK.so (EvOK.bin opSub (EvOK.var (by rfl)) (EvOK.call (EvOK.blt b_len (by kernel_rfl)) KeepsOK.builtin okLen (EvAll.cons (EvOK.attr (by rfl) (attrSlot sBytes) (EvOK.var (by rfl))) (by rfl) EvAll.nil) EvKw.nil))) OptOK.no) (ExsOK.cons (ExOK.set sBytes (by rfl) (EvOK.var (by rfl)) (EvOK.var (by rfl))) ExsOK.nil))))))
noncomputable def f_Builder_GrowByteBuffer : Fn := fDef [] (fFun fi_Builder_GrowByteBuffer 1 x_Builder_GrowByteBuffer)
theorem ct_Builder_GrowByteBuffer : FnCT 1 405 [] f_Builder_GrowByteBuffer := FnCT.def (da := []) (dv := []) def_Builder_GrowByteBuffer body_Builder_GrowByteBuffer (fun _ => trivial) (by decide) fun w s name doc pm an ct ps ks X h1 h2 => by
  obtain rfl := len0 h2
  have g : ps.length = 1 := h1
  obtain ⟨p0, rfl⟩ := len1 g
  exact BindsTo.of_eq (by kernel_rfl)
theorem ok_Builder_GrowByteBuffer : FnOK 1 (.ref 405) [] f_Builder_GrowByteBuffer := ct_Builder_GrowByteBuffer.ok
noncomputable def fi_Builder_Pad : FI := { addr := 426, qual := "Builder.Pad", scope := stScope (inSt 37 12), cd := .ref 425, names := ["self", "n", "new_head"] }
theorem def_Builder_Pad : DefOK fi_Builder_Pad (stParams (inSt 37 12)) (stPart (inSt 37 12)) .none .none :=
  ⟨⟨.type "function", none, "Pad", .none, .str "flatbuffers.builder" 726, none, .none, #[], fun P => by kernel_rfl⟩, fun P => by kernel_rfl, ⟨by kernel_rfl, by decide +kernel, by decide⟩, by kernel_rfl, by kernel_rfl, by kernel_rfl, fun _ => rfl⟩
noncomputable def x_Builder_Pad : Ex := (xSeq (xIf (bCmp mLe (eVar 1) (eConst (.int 0))) (xSeq (xRet (eConst .none)) xNil) xNil) (xSeq (xAsg 2 (eBin mSub (eAttr (eVar 0) (semSlot .builder 4)) (eVar 1))) (xSeq (xPutCut (eBin fRep (eConst (.bytes [0])) (eVar 1)) (eAttr (eVar 0) (semSlot .builder 0)) (some (eVar 2)) (some (eAttr (eVar 0) (semSlot .builder 4)))) (xSeq (xSet .builder 4 (eVar 0) (eVar 2)) xNil))))
theorem body_Builder_Pad : ExsOK fi_Builder_Pad 0 x_Builder_Pad (stPart (inSt 37 12)) :=
  (ExsOK.cons (ExOK.ite (BoOK.cmp opLe (EvOK.var (by rfl)) EvOK.int (by rfl)) (ExsOK.cons ExOK.retNone ExsOK.nil) ExsOK.nil) (ExsOK.cons (ExOK.asg (by rfl) (by rfl) (EvOK.bin opSub (EvOK.attr (by rfl) (attrSlot sHead) (EvOK.var (by rfl))) (EvOK.var (by rfl)))) (ExsOK.cons (ExOK.putCut (by rfl) (EvOK.bin opRep EvOK.bytes (EvOK.var (by rfl))) (EvOK.attr (by rfl) (attrSlot sBytes) (EvOK.var (by rfl))) (OptOK.so (EvOK.var (by rfl))) (OptOK.so (EvOK.attr (by rfl) (attrSlot sHead) (EvOK.var (by rfl))))) (ExsOK.cons (ExOK.set sHead (by rfl) (EvOK.var (by rfl)) (EvOK.var (by rfl))) ExsOK.nil))))
noncomputable def f_Builder_Pad : Fn := fDef [] (fFun fi_Builder_Pad 2 x_Builder_Pad)
theorem ct_Builder_Pad : FnCT 1 426 [] f_Builder_Pad := FnCT.def (da := []) (dv := []) def_Builder_Pad body_Builder_Pad (fun _ => trivial) (by decide) fun w s name doc pm an ct ps ks X h1 h2 => by
  obtain rfl := len0 h2
  have g : ps.length = 2 := h1
  obtain ⟨p0, p1, rfl⟩ := len2 g
  exact BindsTo.of_eq (by kernel_rfl)
theorem ok_Builder_Pad : FnOK 1 (.ref 426) [] f_Builder_Pad := ct_Builder_Pad.ok
noncomputable def fi_Builder_Prep : FI := { addr := 433, qual := "Builder.Prep", scope := stScope (inSt 37 13), cd := .ref 432, names := ["self", "size", "additionalBytes", "head", "buf_len", "alignSize", "needed", "oldBufSize"] }
theorem def_Builder_Prep : DefOK fi_Builder_Prep (stParams (inSt 37 13)) (stPart (inSt 37 13)) .none .none :=
  ⟨⟨.type "function", none, "Prep", .none, .str "flatbuffers.builder" 726, none, .none, #[], fun P => by kernel_rfl⟩, fun P => by kernel_rfl, ⟨by kernel_rfl, by decide +kernel, by decide⟩, by kernel_rfl, by kernel_rfl, by kernel_rfl, fun _ => rfl⟩
noncomputable def x_Builder_Prep : Ex := (xSeq (xIf (bCmp mGt (eVar 1) (eAttr (eVar 0) (semSlot .builder 5))) (xSeq (xSet .builder 5 (eVar 0) (eVar 1)) xNil) xNil) (xSeq (xAsg 3 (eAttr (eVar 0) (semSlot .builder 4))) (xSeq (xAsg 4 (eCall ([(eAttr (eVar 0) (semSlot .builder 0))] ++ []) fLen)) (xSeq (xAsg 5 (eBin mAdd (eUn mInv (eBin mAdd (eBin mSub (eVar 4) (eVar 3)) (eVar 2))) (eConst (.int 1)))) (xSeq (xAug 5 mBitAnd (eBin mSub (eVar 1) (eConst (.int 1)))) (xSeq (xAsg 6 (eBin mAdd (eBin mAdd (eVar 5) (eVar 1)) (eVar 2))) (xSeq (whileF (bCmp mLt (eVar 3) (eVar 6)) (xSeq (xAsg 7 (eVar 4)) (xSeq (xExpr (eMeth (eVar 0) (selI .builder) ([] ++ []) f_Builder_GrowByteBuffer)) (xSeq (xAsg 4 (eCall ([(eAttr (eVar 0) (semSlot .builder 0))] ++ []) fLen)) (xSeq (xAug 3 mIAdd (eBin mSub (eVar 4) (eVar 7))) xNil)))) 40) (xSeq (xSet .builder 4 (eVar 0) (eVar 3)) (xSeq (xExpr (eMeth (eVar 0) (selI .builder) ([(eVar 5)] ++ []) f_Builder_Pad)) xNil)))))))))
theorem body_Builder_Prep : ExsOK fi_Builder_Prep 1 x_Builder_Prep (stPart (inSt 37 13)) :=
  (ExsOK.cons (ExOK.ite (BoOK.cmp opGt (EvOK.var (by rfl)) (EvOK.attr (by rfl) (attrSlot sMinalign) (EvOK.var (by rfl))) (by rfl)) (ExsOK.cons (ExOK.set sMinalign (by rfl) (EvOK.var (by rfl)) (EvOK.var (by rfl))) ExsOK.nil) ExsOK.nil) (ExsOK.cons (ExOK.asg (by rfl) (by rfl) (EvOK.attr (by rfl) (attrSlot sHead) (EvOK.var (by rfl)))) (ExsOK.cons (ExOK.asg (by rfl) (by rfl) (EvOK.call (EvOK.blt b_len (by kernel_rfl)) KeepsOK.builtin okLen (EvAll.cons (EvOK.attr (by rfl) (attrSlot sBytes) (EvOK.var (by rfl))) (by rfl) EvAll.nil) EvKw.nil)) (ExsOK.cons (ExOK.asg (by rfl) (by rfl) (EvOK.bin opAdd (EvOK.un opInv (EvOK.bin opAdd (EvOK.bin opSub (EvOK.var (by rfl)) (EvOK.var (by rfl))) (EvOK.var (by rfl)))) EvOK.int)) (ExsOK.cons (ExOK.aug (by rfl) opIAnd (EvOK.bin opSub (EvOK.var (by rfl)) EvOK.int)) (ExsOK.cons (ExOK.asg (by rfl) (by rfl) (EvOK.bin opAdd (EvOK.bin opAdd (EvOK.var (by rfl)) (EvOK.var (by rfl))) (EvOK.var (by rfl)))) (ExsOK.cons (ExOK.while (BoOK.cmp opLt (EvOK.var (by rfl)) (EvOK.var (by rfl)) (by rfl)) (ExsOK.cons (ExOK.asg (by rfl) (by rfl) (EvOK.var (by rfl))) (ExsOK.cons (ExOK.expr (by rfl) (EvOK.meth (EvOK.var (by rfl)) (by rfl) (methI m_builder_GrowByteBuffer) (selI_true _) m_builder_GrowByteBuffer.keeps (ok_Builder_GrowByteBuffer.le (by decide)) EvAll.nil EvKw.nil (by rfl) (by decide))) (ExsOK.cons (ExOK.asg (by rfl) (by rfl) (EvOK.call (EvOK.blt b_len (by kernel_rfl)) KeepsOK.builtin okLen (EvAll.cons (EvOK.attr (by rfl) (attrSlot sBytes) (EvOK.var (by rfl))) (by rfl) EvAll.nil) EvKw.nil)) (ExsOK.cons (ExOK.aug (by rfl) opIAdd (EvOK.bin opSub (EvOK.var (by rfl)) (EvOK.var (by rfl)))) ExsOK.nil))))) (ExsOK.cons (ExOK.set sHead (by rfl) (EvOK.var (by rfl)) (EvOK.var (by rfl))) (ExsOK.cons (ExOK.expr (by rfl) (EvOK.meth (EvOK.var (by rfl)) (by rfl) (methI m_builder_Pad) (selI_true _) m_builder_Pad.keeps (ok_Builder_Pad.le (by decide)) (EvAll.cons (EvOK.var (by rfl)) (by rfl) EvAll.nil) EvKw.nil (by rfl) (by decide))) ExsOK.nil)))))))))
noncomputable def f_Builder_Prep : Fn := fDef [] (fFun fi_Builder_Prep 3 x_Builder_Prep)
theorem ct_Builder_Prep : FnCT 2 433 [] f_Builder_Prep := FnCT.def (da := []) (dv := []) def_Builder_Prep body_Builder_Prep (fun _ => trivial) (by decide) fun w s name doc pm an ct ps ks X h1 h2 => by
  obtain rfl := len0 h2
  have g : ps.length = 3 := h1
  obtain ⟨p0, p1, p2, rfl⟩ := len3 g
  exact BindsTo.of_eq (by kernel_rfl)
theorem ok_Builder_Prep : FnOK 2 (.ref 433) [] f_Builder_Prep := ct_Builder_Prep.ok
noncomputable def fi_Builder_Place : FI := { addr := 724, qual := "Builder.Place", scope := stScope (inSt 37 54), cd := .ref 723, names := ["self", "x", "flags", "new_head"] }
theorem def_Builder_Place : DefOK fi_Builder_Place (stParams (inSt 37 54)) (stPart (inSt 37 54)) .none .none :=
  ⟨⟨.type "function", none, "Place", .none, .str "flatbuffers.builder" 726, none, .none, #[], fun P => by kernel_rfl⟩, fun P => by kernel_rfl, ⟨by kernel_rfl, by decide +kernel, by decide⟩, by kernel_rfl, by kernel_rfl, by kernel_rfl, fun _ => rfl⟩
noncomputable def x_Builder_Place : Ex := (xSeq (xExpr (eCall ([(eVar 1), (eVar 2)] ++ []) f_enforce_number)) (xSeq (xAsg 3 (eBin mSub (eAttr (eVar 0) (semSlot .builder 4)) (eAttr (eVar 2) (semCls "bytewidth")))) (xSeq (xSet .builder 4 (eVar 0) (eVar 3)) (xSeq (xExpr (eCall ([(eAttr (eVar 2) (semCls "packer_type")), (eAttr (eVar 0) (semSlot .builder 0)), (eVar 3), (eVar 1)] ++ []) f_Write)) xNil))))
theorem body_Builder_Place : ExsOK fi_Builder_Place 1 x_Builder_Place (stPart (inSt 37 54)) :=
  (ExsOK.cons (ExOK.expr (by rfl) (EvOK.call (EvOK.gbl g_enforce_number (by kernel_rfl)) (KeepsOK.ref fun P => by kernel_rfl) (ok_enforce_number.le (by decide)) (EvAll.cons (EvOK.var (by rfl)) (by rfl) (EvAll.cons (EvOK.var (by rfl)) (by rfl) EvAll.nil)) EvKw.nil)) (ExsOK.cons (ExOK.asg (by rfl) (by rfl) (EvOK.bin opSub (EvOK.attr (by rfl) (attrSlot sHead) (EvOK.var (by rfl))) (EvOK.attr (by rfl) (attrCls clsOK) (EvOK.var (by rfl))))) (ExsOK.cons (ExOK.set sHead (by rfl) (EvOK.var (by rfl)) (EvOK.var (by rfl))) (ExsOK.cons (ExOK.expr (by rfl) (EvOK.call (EvOK.gbl g_Write (by kernel_rfl)) (KeepsOK.ref fun P => by kernel_rfl) (ok_Write.le (by decide)) (EvAll.cons (EvOK.attr (by rfl) (attrCls clsOK) (EvOK.var (by rfl))) (by rfl) (EvAll.cons (EvOK.attr (by rfl) (attrSlot sBytes) (EvOK.var (by rfl))) (by rfl) (EvAll.cons (EvOK.var (by rfl)) (by rfl) (EvAll.cons (EvOK.var (by rfl)) (by rfl) EvAll.nil)))) EvKw.nil)) ExsOK.nil))))
noncomputable def f_Builder_Place : Fn := fDef [] (fFun fi_Builder_Place 3 x_Builder_Place)
theorem ct_Builder_Place : FnCT 2 724 [] f_Builder_Place := FnCT.def (da := []) (dv := []) def_Builder_Place body_Builder_Place (fun _ => trivial) (by decide) fun w s name doc pm an ct ps ks X h1 h2 => by
  obtain rfl := len0 h2
  have g : ps.length = 3 := h1
  obtain ⟨p0, p1, p2, rfl⟩ := len3 g
  exact BindsTo.of_eq (by kernel_rfl)
theorem ok_Builder_Place : FnOK 2 (.ref 724) [] f_Builder_Place := ct_Builder_Place.ok
noncomputable def fi_Builder_PlaceSOffsetT : FI := { addr := 738, qual := "Builder.PlaceSOffsetT", scope := stScope (inSt 37 56), cd := .ref 737, names := ["self", "x", "new_head"] }
theorem def_Builder_PlaceSOffsetT : DefOK fi_Builder_PlaceSOffsetT (stParams (inSt 37 56)) (stPart (inSt 37 56)) .none .none :=
  ⟨⟨.type "function", none, "PlaceSOffsetT", .none, .str "flatbuffers.builder" 726, none, .none, #[], fun P => by kernel_rfl⟩, fun P => by kernel_rfl, ⟨by kernel_rfl, by decide +kernel, by decide⟩, by kernel_rfl, by kernel_rfl, by kernel_rfl, fun _ => rfl⟩
noncomputable def x_Builder_PlaceSOffsetT : Ex := (xSeq (xExpr (eCall ([(eVar 1), (eSt (.ref 134))] ++ []) f_enforce_number)) (xSeq (xAsg 2 (eBin mSub (eAttr (eVar 0) (semSlot .builder 4)) (eAttr (eSt (.ref 134)) (semCls "bytewidth")))) (xSeq (xSet .builder 4 (eVar 0) (eVar 2)) (xSeq (xExpr (eCall ([(eSt (.ref 54)), (eAttr (eVar 0) (semSlot .builder 0)), (eVar 2), (eVar 1)] ++ []) f_Write)) xNil))))
theorem body_Builder_PlaceSOffsetT : ExsOK fi_Builder_PlaceSOffsetT 1 x_Builder_PlaceSOffsetT (stPart (inSt 37 56)) :=
  (ExsOK.cons (ExOK.expr (by rfl) (EvOK.call (EvOK.gbl g_enforce_number (by kernel_rfl)) (KeepsOK.ref fun P => by kernel_rfl) (ok_enforce_number.le (by decide)) (EvAll.cons (EvOK.var (by rfl)) (by rfl) (EvAll.cons (EvOK.gbl g_SOffsetTFlags (by kernel_rfl)) (by rfl) EvAll.nil)) EvKw.nil)) (ExsOK.cons (ExOK.asg (by rfl) (by rfl) (EvOK.bin opSub (EvOK.attr (by rfl) (attrSlot sHead) (EvOK.var (by rfl))) (EvOK.attr (by rfl) (attrCls clsOK) (EvOK.gbl g_SOffsetTFlags (by kernel_rfl))))) (ExsOK.cons (ExOK.set sHead (by rfl) (EvOK.var (by rfl)) (EvOK.var (by rfl))) (ExsOK.cons (ExOK.expr (by rfl) (EvOK.call (EvOK.gbl g_Write (by kernel_rfl)) (KeepsOK.ref fun P => by kernel_rfl) (ok_Write.le (by decide)) (EvAll.cons (EvOK.gbl g_soffset (by kernel_rfl)) (by rfl) (EvAll.cons (EvOK.attr (by rfl) (attrSlot sBytes) (EvOK.var (by rfl))) (by rfl) (EvAll.cons (EvOK.var (by rfl)) (by rfl) (EvAll.cons (EvOK.var (by rfl)) (by rfl) EvAll.nil)))) EvKw.nil)) ExsOK.nil))))
noncomputable def f_Builder_PlaceSOffsetT : Fn := fDef [] (fFun fi_Builder_PlaceSOffsetT 2 x_Builder_PlaceSOffsetT)
theorem ct_Builder_PlaceSOffsetT : FnCT 2 738 [] f_Builder_PlaceSOffsetT := FnCT.def (da := []) (dv := []) def_Builder_PlaceSOffsetT body_Builder_PlaceSOffsetT (fun _ => trivial) (by decide) fun w s name doc pm an ct ps ks X h1 h2 => by
  obtain rfl := len0 h2
  have g : ps.length = 2 := h1
  obtain ⟨p0, p1, rfl⟩ := len2 g
  exact BindsTo.of_eq (by kernel_rfl)
theorem ok_Builder_PlaceSOffsetT : FnOK 2 (.ref 738) [] f_Builder_PlaceSOffsetT := ct_Builder_PlaceSOffsetT.ok
noncomputable def fi_Builder_PlaceUOffsetT : FI := { addr := 745, qual := "Builder.PlaceUOffsetT", scope := stScope (inSt 37 57), cd := .ref 744, names := ["self", "x", "new_head"] }
theorem def_Builder_PlaceUOffsetT : DefOK fi_Builder_PlaceUOffsetT (stParams (inSt 37 57)) (stPart (inSt 37 57)) .none .none :=
  ⟨⟨.type "function", none, "PlaceUOffsetT", .none, .str "flatbuffers.builder" 726, none, .none, #[], fun P => by kernel_rfl⟩, fun P => by kernel_rfl, ⟨by kernel_rfl, by decide +kernel, by decide⟩, by kernel_rfl, by kernel_rfl, by kernel_rfl, fun _ => rfl⟩
noncomputable def x_Builder_PlaceUOffsetT : Ex := (xSeq (xExpr (eCall ([(eVar 1), (eSt (.ref 146))] ++ []) f_enforce_number)) (xSeq (xAsg 2 (eBin mSub (eAttr (eVar 0) (semSlot .builder 4)) (eAttr (eSt (.ref 146)) (semCls "bytewidth")))) (xSeq (xSet .builder 4 (eVar 0) (eVar 2)) (xSeq (xExpr (eCall ([(eSt (.ref 52)), (eAttr (eVar 0) (semSlot .builder 0)), (eVar 2), (eVar 1)] ++ []) f_Write)) xNil))))
theorem body_Builder_PlaceUOffsetT : ExsOK fi_Builder_PlaceUOffsetT 1 x_Builder_PlaceUOffsetT (stPart (inSt 37 57)) :=
  (ExsOK.cons (ExOK.expr (by rfl) (EvOK.call (EvOK.gbl g_enforce_number (by kernel_rfl)) (KeepsOK.ref fun P => by kernel_rfl) (ok_enforce_number.le (by decide)) (EvAll.cons (EvOK.var (by rfl)) (by rfl) (EvAll.cons (EvOK.gbl g_UOffsetTFlags (by kernel_rfl)) (by rfl) EvAll.nil)) EvKw.nil)) (ExsOK.cons (ExOK.asg (by rfl) (by rfl) (EvOK.bin opSub (EvOK.attr (by rfl) (attrSlot sHead) (EvOK.var (by rfl))) (EvOK.attr (by rfl) (attrCls clsOK) (EvOK.gbl g_UOffsetTFlags (by kernel_rfl))))) (ExsOK.cons (ExOK.set sHead (by rfl) (EvOK.var (by rfl)) (EvOK.var (by rfl))) (ExsOK.cons (ExOK.expr (by rfl) (EvOK.call (EvOK.gbl g_Write (by kernel_rfl)) (KeepsOK.ref fun P => by kernel_rfl) (ok_Write.le (by decide)) (EvAll.cons (EvOK.gbl g_uoffset (by kernel_rfl)) (by rfl) (EvAll.cons (EvOK.attr (by rfl) (attrSlot sBytes) (EvOK.var (by rfl))) (by rfl) (EvAll.cons (EvOK.var (by rfl)) (by rfl) (EvAll.cons (EvOK.var (by rfl)) (by rfl) EvAll.nil)))) EvKw.nil)) ExsOK.nil))))
noncomputable def f_Builder_PlaceUOffsetT : Fn := fDef [] (fFun fi_Builder_PlaceUOffsetT 2 x_Builder_PlaceUOffsetT)
theorem ct_Builder_PlaceUOffsetT : FnCT 2 745 [] f_Builder_PlaceUOffsetT := FnCT.def (da := []) (dv := []) def_Builder_PlaceUOffsetT body_Builder_PlaceUOffsetT (fun _ => trivial) (by decide) fun w s name doc pm an ct ps ks X h1 h2 => by
  obtain rfl := len0 h2
  have g : ps.length = 2 := h1
  obtain ⟨p0, p1, rfl⟩ := len2 g
  exact BindsTo.of_eq (by kernel_rfl)
theorem ok_Builder_PlaceUOffsetT : FnOK 2 (.ref 745) [] f_Builder_PlaceUOffsetT := ct_Builder_PlaceUOffsetT.ok
noncomputable def fi_Builder_PrependSOffsetTRelative : FI := { addr := 440, qual := "Builder.PrependSOffsetTRelative", scope := stScope (inSt 37 14), cd := .ref 439, names := ["self", "off", "off2", "msg"] }
theorem def_Builder_PrependSOffsetTRelative : DefOK fi_Builder_PrependSOffsetTRelative (stParams (inSt 37 14)) (stPart (inSt 37 14)) .none .none :=
  ⟨⟨.type "function", none, "PrependSOffsetTRelative", .none, .str "flatbuffers.builder" 726, none, .none, #[], fun P => by kernel_rfl⟩, fun P => by kernel_rfl, ⟨by kernel_rfl, by decide +kernel, by decide⟩, by kernel_rfl, by kernel_rfl, by kernel_rfl, fun _ => rfl⟩
noncomputable def x_Builder_PrependSOffsetTRelative : Ex := (xSeq (xExpr (eMeth (eVar 0) (selI .builder) ([(eAttr (eSt (.ref 134)) (semCls "bytewidth")), (eConst (.int 0))] ++ []) f_Builder_Prep)) (xSeq (xIf (bNot (bCmp mLe (eVar 1) (eMeth (eVar 0) (selI .builder) ([] ++ []) f_Builder_Offset))) xNo xNil) (xSeq (xAsg 2 (eBin mAdd (eBin mSub (eMeth (eVar 0) (selI .builder) ([] ++ []) f_Builder_Offset) (eVar 1)) (eAttr (eSt (.ref 134)) (semCls "bytewidth")))) (xSeq (xExpr (eMeth (eVar 0) (selI .builder) ([(eVar 2)] ++ []) f_Builder_PlaceSOffsetT)) xNil))))
theorem body_Builder_PrependSOffsetTRelative : ExsOK fi_Builder_PrependSOffsetTRelative 2 x_Builder_PrependSOffsetTRelative (stPart (inSt 37 14)) :=
  (ExsOK.cons (ExOK.expr (by rfl) (EvOK.meth (EvOK.var (by rfl)) (by rfl) (methI m_builder_Prep) (selI_true _) m_builder_Prep.keeps (ok_Builder_Prep.le (by decide)) (EvAll.cons (EvOK.attr (by rfl) (attrCls clsOK) (EvOK.gbl g_SOffsetTFlags (by kernel_rfl))) (by rfl) (EvAll.cons EvOK.int (by rfl) EvAll.nil)) EvKw.nil (by rfl) (by decide))) (ExsOK.cons (ExOK.ite (BoOK.not (BoOK.cmp opLe (EvOK.var (by rfl)) (EvOK.meth (EvOK.var (by rfl)) (by rfl) (methI m_builder_Offset) (selI_true _) m_builder_Offset.keeps (ok_Builder_Offset.le (by decide)) EvAll.nil EvKw.nil (by rfl) (by decide)) (by rfl))) ExsOK.no ExsOK.nil) (ExsOK.cons (ExOK.asg (by rfl) (by rfl) (EvOK.bin opAdd (EvOK.bin opSub (EvOK.meth (EvOK.var (by rfl)) (by rfl) (methI m_builder_Offset) (selI_true _) m_builder_Offset.keeps (ok_Builder_Offset.le (by decide)) EvAll.nil EvKw.nil (by rfl) (by decide)) (EvOK.var (by rfl))) (EvOK.attr (by rfl) (attrCls clsOK) (EvOK.gbl g_SOffsetTFlags (by kernel_rfl))))) (ExsOK.cons (ExOK.expr (by rfl) (EvOK.meth (EvOK.var (by rfl)) (by rfl) (methI m_builder_PlaceSOffsetT) (selI_true _) m_builder_PlaceSOffsetT.keeps (ok_Builder_PlaceSOffsetT.le (by decide)) (EvAll.cons (EvOK.var (by rfl)) (by rfl) EvAll.nil) EvKw.nil (by rfl) (by decide))) ExsOK.nil))))
noncomputable def f_Builder_PrependSOffsetTRelative : Fn := fDef [] (fFun fi_Builder_PrependSOffsetTRelative 2 x_Builder_PrependSOffsetTRelative)
theorem ct_Builder_PrependSOffsetTRelative : FnCT 3 440 [] f_Builder_PrependSOffsetTRelative := FnCT.def (da := []) (dv := []) def_Builder_PrependSOffsetTRelative body_Builder_PrependSOffsetTRelative (fun _ => trivial) (by decide) fun w s name doc pm an ct ps ks X h1 h2 => by
  obtain rfl := len0 h2
  have g : ps.length = 2 := h1
  obtain ⟨p0, p1, rfl⟩ := len2 g
  exact BindsTo.of_eq (by kernel_rfl)
theorem ok_Builder_PrependSOffsetTRelative : FnOK 3 (.ref 440) [] f_Builder_PrependSOffsetTRelative := ct_Builder_PrependSOffsetTRelative.ok
noncomputable def fi_Builder_PrependUOffsetTRelative : FI := { addr := 447, qual := "Builder.PrependUOffsetTRelative", scope := stScope (inSt 37 15), cd := .ref 446, names := ["self", "off", "off2", "msg"] }
theorem def_Builder_PrependUOffsetTRelative : DefOK fi_Builder_PrependUOffsetTRelative (stParams (inSt 37 15)) (stPart (inSt 37 15)) .none .none :=
  ⟨⟨.type "function", none, "PrependUOffsetTRelative", .none, .str "flatbuffers.builder" 726, none, .none, #[], fun P => by kernel_rfl⟩, fun P => by kernel_rfl, ⟨by kernel_rfl, by decide +kernel, by decide⟩, by kernel_rfl, by kernel_rfl, by kernel_rfl, fun _ => rfl⟩
noncomputable def x_Builder_PrependUOffsetTRelative : Ex := (xSeq (xExpr (eMeth (eVar 0) (selI .builder) ([(eAttr (eSt (.ref 146)) (semCls "bytewidth")), (eConst (.int 0))] ++ []) f_Builder_Prep)) (xSeq (xIf (bNot (bCmp mLe (eVar 1) (eMeth (eVar 0) (selI .builder) ([] ++ []) f_Builder_Offset))) xNo xNil) (xSeq (xAsg 2 (eBin mAdd (eBin mSub (eMeth (eVar 0) (selI .builder) ([] ++ []) f_Builder_Offset) (eVar 1)) (eAttr (eSt (.ref 146)) (semCls "bytewidth")))) (xSeq (xExpr (eMeth (eVar 0) (selI .builder) ([(eVar 2)] ++ []) f_Builder_PlaceUOffsetT)) xNil))))
theorem body_Builder_PrependUOffsetTRelative : ExsOK fi_Builder_PrependUOffsetTRelative 2 x_Builder_PrependUOffsetTRelative (stPart (inSt 37 15)) :=
  (ExsOK.cons (ExOK.expr (by rfl) (EvOK.meth (EvOK.var (by rfl)) (by rfl) (methI m_builder_Prep) (selI_true _) m_builder_Prep.keeps (ok_Builder_Prep.le (by decide)) (EvAll.cons (EvOK.attr (by rfl) (attrCls clsOK) (EvOK.gbl g_UOffsetTFlags (by kernel_rfl))) (by rfl) (EvAll.cons EvOK.int (by rfl) EvAll.nil)) EvKw.nil (by rfl) (by decide))) (ExsOK.cons (ExOK.ite (BoOK.not (BoOK.cmp opLe (EvOK.var (by rfl)) (EvOK.meth (EvOK.var (by rfl)) (by rfl) (methI m_builder_Offset) (selI_true _) m_builder_Offset.keeps (ok_Builder_Offset.le (by decide)) EvAll.nil EvKw.nil (by rfl) (by decide)) (by rfl))) ExsOK.no ExsOK.nil) (ExsOK.cons (ExOK.asg (by rfl) (by rfl) (EvOK.bin opAdd (EvOK.bin opSub (EvOK.meth (EvOK.var (by rfl)) (by rfl) (methI m_builder_Offset) (selI_true _) m_builder_Offset.keeps (ok_Builder_Offset.le (by decide)) EvAll.nil EvKw.nil (by rfl) (by decide)) (EvOK.var (by rfl))) (EvOK.attr (by rfl) (attrCls clsOK) (EvOK.gbl g_UOffsetTFlags (by kernel_rfl))))) (ExsOK.cons (ExOK.expr (by rfl) (EvOK.meth (EvOK.var (by rfl)) (by rfl) (methI m_builder_PlaceUOffsetT) (selI_true _) m_builder_PlaceUOffsetT.keeps (ok_Builder_PlaceUOffsetT.le (by decide)) (EvAll.cons (EvOK.var (by rfl)) (by rfl) EvAll.nil) EvKw.nil (by rfl) (by decide))) ExsOK.nil))))
noncomputable def f_Builder_PrependUOffsetTRelative : Fn := fDef [] (fFun fi_Builder_PrependUOffsetTRelative 2 x_Builder_PrependUOffsetTRelative)
theorem ct_Builder_PrependUOffsetTRelative : FnCT 3 447 [] f_Builder_PrependUOffsetTRelative := FnCT.def (da := []) (dv := []) def_Builder_PrependUOffsetTRelative body_Builder_PrependUOffsetTRelative (fun _ => trivial) (by decide) fun w s name doc pm an ct ps ks X h1 h2 => by
  obtain rfl := len0 h2
  have g : ps.length = 2 := h1
  obtain ⟨p0, p1, rfl⟩ := len2 g
  exact BindsTo.of_eq (by kernel_rfl)
theorem ok_Builder_PrependUOffsetTRelative : FnOK 3 (.ref 447) [] f_Builder_PrependUOffsetTRelative := ct_Builder_PrependUOffsetTRelative.ok
noncomputable def fi_Builder_Slot : FI := { addr := 511, qual := "Builder.Slot", scope := stScope (inSt 37 24), cd := .ref 510, names := ["self", "slotnum"] }
theorem def_Builder_Slot : DefOK fi_Builder_Slot (stParams (inSt 37 24)) (stPart (inSt 37 24)) .none .none :=
  ⟨⟨.type "function", none, "Slot", .none, .str "flatbuffers.builder" 726, none, .none, #[], fun P => by kernel_rfl⟩, fun P => by kernel_rfl, ⟨by kernel_rfl, by decide +kernel, by decide⟩, by kernel_rfl, by kernel_rfl, by kernel_rfl, fun _ => rfl⟩
noncomputable def x_Builder_Slot : Ex := (xSeq (xExpr (eMeth (eVar 0) (selI .builder) ([] ++ []) f_Builder_assertNested)) (xSeq (xPut (eMeth (eVar 0) (selI .builder) ([] ++ []) f_Builder_Offset) (eAttr (eVar 0) (semSlot .builder 1)) (eVar 1)) xNil))
theorem body_Builder_Slot : ExsOK fi_Builder_Slot 1 x_Builder_Slot (stPart (inSt 37 24)) :=
  (ExsOK.cons (ExOK.expr (by rfl) (EvOK.meth (EvOK.var (by rfl)) (by rfl) (methI m_builder_assertNested) (selI_true _) m_builder_assertNested.keeps (ok_Builder_assertNested.le (by decide)) EvAll.nil EvKw.nil (by rfl) (by decide))) (ExsOK.cons (ExOK.put (by rfl) (EvOK.meth (EvOK.var (by rfl)) (by rfl) (methI m_builder_Offset) (selI_true _) m_builder_Offset.keeps (ok_Builder_Offset.le (by decide)) EvAll.nil EvKw.nil (by rfl) (by decide)) (EvOK.attr (by rfl) (attrSlot sVtable) (EvOK.var (by rfl))) (EvOK.var (by rfl))) ExsOK.nil))
noncomputable def f_Builder_Slot : Fn := fDef [] (fFun fi_Builder_Slot 2 x_Builder_Slot)
theorem ct_Builder_Slot : FnCT 2 511 [] f_Builder_Slot := FnCT.def (da := []) (dv := []) def_Builder_Slot body_Builder_Slot (fun _ => trivial) (by decide) fun w s name doc pm an ct ps ks X h1 h2 => by
  obtain rfl := len0 h2
  have g : ps.length = 2 := h1
  obtain ⟨p0, p1, rfl⟩ := len2 g
  exact BindsTo.of_eq (by kernel_rfl)
theorem ok_Builder_Slot : FnOK 2 (.ref 511) [] f_Builder_Slot := ct_Builder_Slot.ok
noncomputable def fi_Builder_EndVector : FI := { addr := 462, qual := "Builder.EndVector", scope := stScope (inSt 37 17), cd := .ref 461, names := ["self", "numElems"] }
theorem def_Builder_EndVector : DefOK fi_Builder_EndVector (stParams (inSt 37 17)) (stPart (inSt 37 17)) (.ref 455) .none :=
  ⟨⟨.type "function", none, "EndVector", .none, .str "flatbuffers.builder" 726, none, .none, #[], fun P => by kernel_rfl⟩, fun P => by kernel_rfl, ⟨by kernel_rfl, by decide +kernel, by decide⟩, by kernel_rfl, by kernel_rfl, by kernel_rfl, fun _ => rfl⟩
noncomputable def x_Builder_EndVector : Ex := (xSeq (xExpr (eMeth (eVar 0) (selI .builder) ([] ++ []) f_Builder_assertNested)) (xSeq (xSet .builder 6 (eVar 0) (eConst (.bool false))) (xSeq (xIf (bVal (eVar 1)) (xSeq (xIf (bCmp mNe (eVar 1) (eAttr (eVar 0) (semSlot .builder 9))) xNo xNil) xNil) xNil) (xSeq (xExpr (eMeth (eVar 0) (selI .builder) ([(eAttr (eVar 0) (semSlot .builder 9))] ++ []) f_Builder_PlaceUOffsetT)) (xSeq (xSet .builder 9 (eVar 0) (eConst .none)) (xSeq (xRet (eMeth (eVar 0) (selI .builder) ([] ++ []) f_Builder_Offset)) xNil))))))
theorem body_Builder_EndVector : ExsOK fi_Builder_EndVector 2 x_Builder_EndVector (stPart (inSt 37 17)) :=
  (ExsOK.cons (ExOK.expr (by rfl) (EvOK.meth (EvOK.var (by rfl)) (by rfl) (methI m_builder_assertNested) (selI_true _) m_builder_assertNested.keeps (ok_Builder_assertNested.le (by decide)) EvAll.nil EvKw.nil (by rfl) (by decide))) (ExsOK.cons (ExOK.set sNested (by rfl) (EvOK.var (by rfl)) EvOK.bool) (ExsOK.cons (ExOK.ite (BoOK.val (by rfl) (EvOK.var (by rfl))) (ExsOK.cons (ExOK.ite (BoOK.cmp opNe (EvOK.var (by rfl)) (EvOK.attr (by rfl) (attrSlot sElems) (EvOK.var (by rfl))) (by rfl)) ExsOK.no ExsOK.nil) ExsOK.nil) ExsOK.nil) (ExsOK.cons (ExOK.expr (by rfl) (EvOK.meth (EvOK.var (by rfl)) (by rfl) (methI m_builder_PlaceUOffsetT) (selI_true _) m_builder_PlaceUOffsetT.keeps (ok_Builder_PlaceUOffsetT.le (by decide)) (EvAll.cons (EvOK.attr (by rfl) (attrSlot sElems) (EvOK.var (by rfl))) (by rfl) EvAll.nil) EvKw.nil (by rfl) (by decide))) (ExsOK.cons (ExOK.set sElems (by rfl) (EvOK.var (by rfl)) EvOK.none) (ExsOK.cons (ExOK.ret (EvOK.meth (EvOK.var (by rfl)) (by rfl) (methI m_builder_Offset) (selI_true _) m_builder_Offset.keeps (ok_Builder_Offset.le (by decide)) EvAll.nil EvKw.nil (by rfl) (by decide))) ExsOK.nil))))))
noncomputable def f_Builder_EndVector : Fn := fDef [.none] (fFun fi_Builder_EndVector 2 x_Builder_EndVector)
theorem dflt_Builder_EndVector (P : Params) : (hK P).lookup 455 = some ⟨.type "tuple", none, .seq #[.none] 0, #[]⟩ := by kernel_rfl
theorem ct_Builder_EndVector : FnCT 3 462 [] f_Builder_EndVector := FnCT.def (da := [.none]) (dv := [.none]) def_Builder_EndVector body_Builder_EndVector (fun _ => ⟨rfl, trivial⟩) (by decide) fun w s name doc pm an ct ps ks X h1 h2 => by
  obtain rfl := len0 h2
  have g : ps.length = 1 := Nat.succ.inj (h1)
  obtain ⟨p0, rfl⟩ := len1 g
  exact BindsTo.of_defaults rfl (X _ _ (dflt_Builder_EndVector _)) rfl rfl rfl
theorem ok_Builder_EndVector : FnOK 3 (.ref 462) [] f_Builder_EndVector := ct_Builder_EndVector.ok
noncomputable def fi_Builder_CreateString : FI := { addr := 476, qual := "Builder.CreateString", scope := stScope (inSt 37 19), cd := .ref 475, names := ["self", "s", "payload_len", "new_head", "x"] }
theorem def_Builder_CreateString : DefOK fi_Builder_CreateString (stParams (inSt 37 19)) (stPart (inSt 37 19)) .none .none :=
  ⟨⟨.type "function", none, "CreateString", .none, .str "flatbuffers.builder" 726, none, .none, #[], fun P => by kernel_rfl⟩, fun P => by kernel_rfl, ⟨by kernel_rfl, by decide +kernel, by decide⟩, by kernel_rfl, by kernel_rfl, by kernel_rfl, fun _ => rfl⟩
noncomputable def x_Builder_CreateString : Ex := (xSeq (xExpr (eMeth (eVar 0) (selI .builder) ([] ++ []) f_Builder_assertNotNested)) (xSeq (xSet .builder 6 (eVar 0) (eConst (.bool true))) (xSeq (xIf (bVal (eCall ([(eVar 1), (eSt (.ref 268))] ++ []) fIsi)) (xSeq (xAsg 4 (eMeth (eVar 1) selStr ([(eConst (.str "utf-8"))] ++ []) fEnc)) xNil) (xSeq (xIf (bVal (eCall ([(eVar 1), (eSt (.ref 269))] ++ []) fIsi)) (xSeq (xAsg 4 (eVar 1)) xNil) xNo) xNil)) (xSeq (xAsg 2 (eCall ([(eVar 4)] ++ []) fLen)) (xSeq (xExpr (eMeth (eVar 0) (selI .builder) ([(eAttr (eSt (.ref 146)) (semCls "bytewidth")), (eBin mMul (eBin mAdd (eVar 2) (eConst (.int 1))) (eAttr (eSt (.ref 64)) (semCls "bytewidth")))] ++ []) f_Builder_Prep)) (xSeq (xExpr (eMeth (eVar 0) (selI .builder) ([(eConst (.int 0)), (eSt (.ref 64))] ++ []) f_Builder_Place)) (xSeq (xAsg 3 (eBin mSub (eAttr (eVar 0) (semSlot .builder 4)) (eVar 2))) (xSeq (xSet .builder 4 (eVar 0) (eVar 3)) (xSeq (xPutCut (eVar 4) (eAttr (eVar 0) (semSlot .builder 0)) (some (eVar 3)) (some (eBin mAdd (eVar 3) (eVar 2)))) (xSeq (xSet .builder 9 (eVar 0) (eVar 2)) (xSeq (xRet (eMeth (eVar 0) (selI .builder) ([] ++ []) f_Builder_EndVector)) xNil)))))))))))
theorem body_Builder_CreateString : ExsOK fi_Builder_CreateString 3 x_Builder_CreateString (stPart (inSt 37 19)) :=
  (ExsOK.cons (ExOK.expr (by rfl) (EvOK.meth (EvOK.var (by rfl)) (by rfl) (methI m_builder_assertNotNested) (selI_true _) m_builder_assertNotNested.keeps (ok_Builder_assertNotNested.le (by decide)) EvAll.nil EvKw.nil (by rfl) (by decide))) (ExsOK.cons (ExOK.set sNested (by rfl) (EvOK.var (by rfl)) EvOK.bool) (ExsOK.cons (ExOK.ite (BoOK.val (by rfl) (EvOK.call (EvOK.blt b_isinstance (by kernel_rfl)) KeepsOK.builtin okIsi (EvAll.cons (EvOK.var (by rfl)) (by rfl) (EvAll.cons (EvOK.gbl g_string_types (by kernel_rfl)) (by rfl) EvAll.nil)) EvKw.nil)) (ExsOK.cons (ExOK.asg (by rfl) (by rfl) (EvOK.meth (EvOK.var (by rfl)) (by rfl) methEnc selStr_true KeepsOK.builtin okEnc (EvAll.cons EvOK.str (by rfl) EvAll.nil) EvKw.nil (by rfl) (by decide))) ExsOK.nil) (ExsOK.cons (ExOK.ite (BoOK.val (by rfl) (EvOK.call (EvOK.blt b_isinstance (by kernel_rfl)) KeepsOK.builtin okIsi (EvAll.cons (EvOK.var (by rfl)) (by rfl) (EvAll.cons (EvOK.gbl g_binary_types (by kernel_rfl)) (by rfl) EvAll.nil)) EvKw.nil)) (ExsOK.cons (ExOK.asg (by rfl) (by rfl) (EvOK.var (by rfl))) ExsOK.nil) ExsOK.no) ExsOK.nil)) (ExsOK.cons (ExOK.asg (by rfl) (by rfl) (EvOK.call (EvOK.blt b_len (by kernel_rfl)) KeepsOK.builtin okLen (EvAll.cons (EvOK.var (by rfl)) (by rfl) EvAll.nil) EvKw.nil)) (ExsOK.cons (ExOK.expr (by rfl) (EvOK.meth (EvOK.var (by rfl)) (by rfl) (methI m_builder_Prep) (selI_true _) m_builder_Prep.keeps (ok_Builder_Prep.le (by decide)) (EvAll.cons (EvOK.attr (by rfl) (attrCls clsOK) (EvOK.gbl g_UOffsetTFlags (by kernel_rfl))) (by rfl) (EvAll.cons (EvOK.bin opMul (EvOK.bin opAdd (EvOK.var (by rfl)) EvOK.int) (EvOK.attr (by rfl) (attrCls clsOK) (EvOK.gbl g_Uint8Flags (by kernel_rfl)))) (by rfl) EvAll.nil)) EvKw.nil (by rfl) (by decide))) (ExsOK.cons (ExOK.expr (by rfl) (EvOK.meth (EvOK.var (by rfl)) (by rfl) (methI m_builder_Place) (selI_true _) m_builder_Place.keeps (ok_Builder_Place.le (by decide)) (EvAll.cons EvOK.int (by rfl) (EvAll.cons (EvOK.gbl g_Uint8Flags (by kernel_rfl)) (by rfl) EvAll.nil)) EvKw.nil (by rfl) (by decide))) (ExsOK.cons (ExOK.asg (by rfl) (by rfl) (EvOK.bin opSub (EvOK.attr (by rfl) (attrSlot sHead) (EvOK.var (by rfl))) (EvOK.var (by rfl)))) (ExsOK.cons (ExOK.set sHead (by rfl) (EvOK.var (by rfl)) (EvOK.var (by rfl))) (ExsOK.cons (ExOK.putCut (by rfl) (EvOK.var (by rfl)) (EvOK.attr (by rfl) (attrSlot sBytes) (EvOK.var (by rfl))) (OptOK.so (EvOK.var (by rfl))) (OptOK.so (EvOK.bin opAdd (EvOK.var (by rfl)) (EvOK.var (by rfl))))) (ExsOK.cons (ExOK.set sElems (by rfl) (EvOK.var (by rfl)) (EvOK.var (by rfl))) (ExsOK.cons (ExOK.ret (EvOK.meth (EvOK.var (by rfl)) (by rfl) (methI m_builder_EndVector) (selI_true _) m_builder_EndVector.keeps (ok_Builder_EndVector.le (by decide)) EvAll.nil EvKw.nil (by rfl) (by decide))) ExsOK.nil)))))))))))
noncomputable def f_Builder_CreateString : Fn := fDef [] (fFun fi_Builder_CreateString 2 x_Builder_CreateString)
theorem ct_Builder_CreateString : FnCT 4 476 [] f_Builder_CreateString := FnCT.def (da := []) (dv := []) def_Builder_CreateString body_Builder_CreateString (fun _ => trivial) (by decide) fun w s name doc pm an ct ps ks X h1 h2 => by
  obtain rfl := len0 h2
  have g : ps.length = 2 := h1
  obtain ⟨p0, p1, rfl⟩ := len2 g
  exact BindsTo.of_eq (by kernel_rfl)
theorem ok_Builder_CreateString : FnOK 4 (.ref 476) [] f_Builder_CreateString := ct_Builder_CreateString.ok
noncomputable def fi_Builder_CreateByteVector : FI := { addr := 483, qual := "Builder.CreateByteVector", scope := stScope (inSt 37 20), cd := .ref 482, names := ["self", "x", "data_len", "new_head"] }
theorem def_Builder_CreateByteVector : DefOK fi_Builder_CreateByteVector (stParams (inSt 37 20)) (stPart (inSt 37 20)) .none .none :=
  ⟨⟨.type "function", none, "CreateByteVector", .none, .str "flatbuffers.builder" 726, none, .none, #[], fun P => by kernel_rfl⟩, fun P => by kernel_rfl, ⟨by kernel_rfl, by decide +kernel, by decide⟩, by kernel_rfl, by kernel_rfl, by kernel_rfl, fun _ => rfl⟩
noncomputable def x_Builder_CreateByteVector : Ex := (xSeq (xExpr (eMeth (eVar 0) (selI .builder) ([] ++ []) f_Builder_assertNotNested)) (xSeq (xSet .builder 6 (eVar 0) (eConst (.bool true))) (xSeq (xIf (bNot (bVal (eCall ([(eVar 1), (eSt (.ref 269))] ++ []) fIsi))) xNo xNil) (xSeq (xAsg 2 (eCall ([(eVar 1)] ++ []) fLen)) (xSeq (xExpr (eMeth (eVar 0) (selI .builder) ([(eAttr (eSt (.ref 146)) (semCls "bytewidth")), (eBin mMul (eVar 2) (eAttr (eSt (.ref 64)) (semCls "bytewidth")))] ++ []) f_Builder_Prep)) (xSeq (xAsg 3 (eBin mSub (eAttr (eVar 0) (semSlot .builder 4)) (eVar 2))) (xSeq (xSet .builder 4 (eVar 0) (eVar 3)) (xSeq (xPutCut (eVar 1) (eAttr (eVar 0) (semSlot .builder 0)) (some (eVar 3)) (some (eBin mAdd (eVar 3) (eVar 2)))) (xSeq (xSet .builder 9 (eVar 0) (eVar 2)) (xSeq (xRet (eMeth (eVar 0) (selI .builder) ([] ++ []) f_Builder_EndVector)) xNil))))))))))
theorem body_Builder_CreateByteVector : ExsOK fi_Builder_CreateByteVector 3 x_Builder_CreateByteVector (stPart (inSt 37 20)) :=
  (ExsOK.cons (ExOK.expr (by rfl) (EvOK.meth (EvOK.var (by rfl)) (by rfl) (methI m_builder_assertNotNested) (selI_true _) m_builder_assertNotNested.keeps (ok_Builder_assertNotNested.le (by decide)) EvAll.nil EvKw.nil (by rfl) (by decide))) (ExsOK.cons (ExOK.set sNested (by rfl) (EvOK.var (by rfl)) EvOK.bool) (ExsOK.cons (ExOK.ite (BoOK.not (BoOK.val (by rfl) (EvOK.call (EvOK.blt b_isinstance (by kernel_rfl)) KeepsOK.builtin okIsi (EvAll.cons (EvOK.var (by rfl)) (by rfl) (EvAll.cons (EvOK.gbl g_binary_types (by kernel_rfl)) (by rfl) EvAll.nil)) EvKw.nil))) ExsOK.no ExsOK.nil) (ExsOK.cons (ExOK.asg (by rfl) (by rfl) (EvOK.call (EvOK.blt b_len (by kernel_rfl)) KeepsOK.builtin okLen (EvAll.cons (EvOK.var (by rfl)) (by rfl) EvAll.nil) EvKw.nil)) (ExsOK.cons (ExOK.expr (by rfl) (EvOK.meth (EvOK.var (by rfl)) (by rfl) (methI m_builder_Prep) (selI_true _) m_builder_Prep.keeps (ok_Builder_Prep.le (by decide)) (EvAll.cons (EvOK.attr (by rfl) (attrCls clsOK) (EvOK.gbl g_UOffsetTFlags (by kernel_rfl))) (by rfl) (EvAll.cons (EvOK.bin opMul (EvOK.var (by rfl)) (EvOK.attr (by rfl) (attrCls clsOK) (EvOK.gbl g_Uint8Flags (by kernel_rfl)))) (by rfl) EvAll.nil)) EvKw.nil (by rfl) (by decide))) (ExsOK.cons (ExOK.asg (by rfl) (by rfl) (EvOK.bin opSub (EvOK.attr (by rfl) (attrSlot sHead) (EvOK.var (by rfl))) (EvOK.var (by rfl)))) (ExsOK.cons (ExOK.set sHead (by rfl) (EvOK.var (by rfl)) (EvOK.var (by rfl))) (ExsOK.cons (ExOK.putCut (by rfl) (EvOK.var (by rfl)) (EvOK.attr (by rfl) (attrSlot sBytes) (EvOK.var (by rfl))) (OptOK.so (EvOK.var (by rfl))) (OptOK.so (EvOK.bin opAdd (EvOK.var (by rfl)) (EvOK.var (by rfl))))) (ExsOK.cons (ExOK.set sElems (by rfl) (EvOK.var (by rfl)) (EvOK.var (by rfl))) (ExsOK.cons (ExOK.ret (EvOK.meth (EvOK.var (by rfl)) (by rfl) (methI m_builder_EndVector) (selI_true _) m_builder_EndVector.keeps (ok_Builder_EndVector.le (by decide)) EvAll.nil EvKw.nil (by rfl) (by decide))) ExsOK.nil))))))))))
noncomputable def f_Builder_CreateByteVector : Fn := fDef [] (fFun fi_Builder_CreateByteVector 2 x_Builder_CreateByteVector)
theorem ct_Builder_CreateByteVector : FnCT 4 483 [] f_Builder_CreateByteVector := FnCT.def (da := []) (dv := []) def_Builder_CreateByteVector body_Builder_CreateByteVector (fun _ => trivial) (by decide) fun w s name doc pm an ct ps ks X h1 h2 => by
  obtain rfl := len0 h2
  have g : ps.length = 2 := h1
  obtain ⟨p0, p1, rfl⟩ := len2 g
  exact BindsTo.of_eq (by kernel_rfl)
theorem ok_Builder_CreateByteVector : FnOK 4 (.ref 483) [] f_Builder_CreateByteVector := ct_Builder_CreateByteVector.ok
noncomputable def fi_Builder_Prepend : FI := { addr := 542, qual := "Builder.Prepend", scope := stScope (inSt 37 28), cd := .ref 541, names := ["self", "flags", "off"] }
theorem def_Builder_Prepend : DefOK fi_Builder_Prepend (stParams (inSt 37 28)) (stPart (inSt 37 28)) .none .none :=
  ⟨⟨.type "function", none, "Prepend", .none, .str "flatbuffers.builder" 726, none, .none, #[], fun P => by kernel_rfl⟩, fun P => by kernel_rfl, ⟨by kernel_rfl, by decide +kernel, by decide⟩, by kernel_rfl, by kernel_rfl, by kernel_rfl, fun _ => rfl⟩
noncomputable def x_Builder_Prepend : Ex := (xSeq (xExpr (eMeth (eVar 0) (selI .builder) ([(eAttr (eVar 1) (semCls "bytewidth")), (eConst (.int 0))] ++ []) f_Builder_Prep)) (xSeq (xExpr (eMeth (eVar 0) (selI .builder) ([(eVar 2), (eVar 1)] ++ []) f_Builder_Place)) xNil))
theorem body_Builder_Prepend : ExsOK fi_Builder_Prepend 2 x_Builder_Prepend (stPart (inSt 37 28)) :=
  (ExsOK.cons (ExOK.expr (by rfl) (EvOK.meth (EvOK.var (by rfl)) (by rfl) (methI m_builder_Prep) (selI_true _) m_builder_Prep.keeps (ok_Builder_Prep.le (by decide)) (EvAll.cons (EvOK.attr (by rfl) (attrCls clsOK) (EvOK.var (by rfl))) (by rfl) (EvAll.cons EvOK.int (by rfl) EvAll.nil)) EvKw.nil (by rfl) (by decide))) (ExsOK.cons (ExOK.expr (by rfl) (EvOK.meth (EvOK.var (by rfl)) (by rfl) (methI m_builder_Place) (selI_true _) m_builder_Place.keeps (ok_Builder_Place.le (by decide)) (EvAll.cons (EvOK.var (by rfl)) (by rfl) (EvAll.cons (EvOK.var (by rfl)) (by rfl) EvAll.nil)) EvKw.nil (by rfl) (by decide))) ExsOK.nil))
noncomputable def f_Builder_Prepend : Fn := fDef [] (fFun fi_Builder_Prepend 3 x_Builder_Prepend)
theorem ct_Builder_Prepend : FnCT 3 542 [] f_Builder_Prepend := FnCT.def (da := []) (dv := []) def_Builder_Prepend body_Builder_Prepend (fun _ => trivial) (by decide) fun w s name doc pm an ct ps ks X h1 h2 => by
  obtain rfl := len0 h2
  have g : ps.length = 3 := h1
  obtain ⟨p0, p1, p2, rfl⟩ := len3 g
  exact BindsTo.of_eq (by kernel_rfl)
theorem ok_Builder_Prepend : FnOK 3 (.ref 542) [] f_Builder_Prepend := ct_Builder_Prepend.ok
noncomputable def fi_Builder_PrependInt32 : FI := { addr := 696, qual := "Builder.PrependInt32", scope := stScope (inSt 37 50), cd := .ref 695, names := ["self", "x"] }
theorem def_Builder_PrependInt32 : DefOK fi_Builder_PrependInt32 (stParams (inSt 37 50)) (stPart (inSt 37 50)) .none .none :=
  ⟨⟨.type "function", none, "PrependInt32", .none, .str "flatbuffers.builder" 726, none, .none, #[], fun P => by kernel_rfl⟩, fun P => by kernel_rfl, ⟨by kernel_rfl, by decide +kernel, by decide⟩, by kernel_rfl, by kernel_rfl, by kernel_rfl, fun _ => rfl⟩
noncomputable def x_Builder_PrependInt32 : Ex := (xSeq (xExpr (eMeth (eVar 0) (selI .builder) ([(eSt (.ref 120)), (eVar 1)] ++ []) f_Builder_Prepend)) xNil)
theorem body_Builder_PrependInt32 : ExsOK fi_Builder_PrependInt32 3 x_Builder_PrependInt32 (stPart (inSt 37 50)) :=
  (ExsOK.cons (ExOK.expr (by rfl) (EvOK.meth (EvOK.var (by rfl)) (by rfl) (methI m_builder_Prepend) (selI_true _) m_builder_Prepend.keeps (ok_Builder_Prepend.le (by decide)) (EvAll.cons (EvOK.gbl g_Int32Flags (by kernel_rfl)) (by rfl) (EvAll.cons (EvOK.var (by rfl)) (by rfl) EvAll.nil)) EvKw.nil (by rfl) (by decide))) ExsOK.nil)
noncomputable def f_Builder_PrependInt32 : Fn := fDef [] (fFun fi_Builder_PrependInt32 2 x_Builder_PrependInt32)
theorem ct_Builder_PrependInt32 : FnCT 4 696 [] f_Builder_PrependInt32 := FnCT.def (da := []) (dv := []) def_Builder_PrependInt32 body_Builder_PrependInt32 (fun _ => trivial) (by decide) fun w s name doc pm an ct ps ks X h1 h2 => by
  obtain rfl := len0 h2
  have g : ps.length = 2 := h1
  obtain ⟨p0, p1, rfl⟩ := len2 g
  exact BindsTo.of_eq (by kernel_rfl)
theorem ok_Builder_PrependInt32 : FnOK 4 (.ref 696) [] f_Builder_PrependInt32 := ct_Builder_PrependInt32.ok
noncomputable def fi_Builder_PrependVOffsetT : FI := { addr := 717, qual := "Builder.PrependVOffsetT", scope := stScope (inSt 37 53), cd := .ref 716, names := ["self", "x"] }
theorem def_Builder_PrependVOffsetT : DefOK fi_Builder_PrependVOffsetT (stParams (inSt 37 53)) (stPart (inSt 37 53)) .none .none :=
  ⟨⟨.type "function", none, "PrependVOffsetT", .none, .str "flatbuffers.builder" 726, none, .none, #[], fun P => by kernel_rfl⟩, fun P => by kernel_rfl, ⟨by kernel_rfl, by decide +kernel, by decide⟩, by kernel_rfl, by kernel_rfl, by kernel_rfl, fun _ => rfl⟩
noncomputable def x_Builder_PrependVOffsetT : Ex := (xSeq (xExpr (eMeth (eVar 0) (selI .builder) ([(eSt (.ref 158)), (eVar 1)] ++ []) f_Builder_Prepend)) xNil)
theorem body_Builder_PrependVOffsetT : ExsOK fi_Builder_PrependVOffsetT 3 x_Builder_PrependVOffsetT (stPart (inSt 37 53)) :=
  (ExsOK.cons (ExOK.expr (by rfl) (EvOK.meth (EvOK.var (by rfl)) (by rfl) (methI m_builder_Prepend) (selI_true _) m_builder_Prepend.keeps (ok_Builder_Prepend.le (by decide)) (EvAll.cons (EvOK.gbl g_VOffsetTFlags (by kernel_rfl)) (by rfl) (EvAll.cons (EvOK.var (by rfl)) (by rfl) EvAll.nil)) EvKw.nil (by rfl) (by decide))) ExsOK.nil)
noncomputable def f_Builder_PrependVOffsetT : Fn := fDef [] (fFun fi_Builder_PrependVOffsetT 2 x_Builder_PrependVOffsetT)
theorem ct_Builder_PrependVOffsetT : FnCT 4 717 [] f_Builder_PrependVOffsetT := FnCT.def (da := []) (dv := []) def_Builder_PrependVOffsetT body_Builder_PrependVOffsetT (fun _ => trivial) (by decide) fun w s name doc pm an ct ps ks X h1 h2 => by
  obtain rfl := len0 h2
  have g : ps.length = 2 := h1
  obtain ⟨p0, p1, rfl⟩ := len2 g
  exact BindsTo.of_eq (by kernel_rfl)
theorem ok_Builder_PrependVOffsetT : FnOK 4 (.ref 717) [] f_Builder_PrependVOffsetT := ct_Builder_PrependVOffsetT.ok
noncomputable def fi_Builder_PrependSlot : FI := { addr := 549, qual := "Builder.PrependSlot", scope := stScope (inSt 37 29), cd := .ref 548, names := ["self", "flags", "o", "x", "d"] }
theorem def_Builder_PrependSlot : DefOK fi_Builder_PrependSlot (stParams (inSt 37 29)) (stPart (inSt 37 29)) .none .none :=
  ⟨⟨.type "function", none, "PrependSlot", .none, .str "flatbuffers.builder" 726, none, .none, #[], fun P => by kernel_rfl⟩, fun P => by kernel_rfl, ⟨by kernel_rfl, by decide +kernel, by decide⟩, by kernel_rfl, by kernel_rfl, by kernel_rfl, fun _ => rfl⟩
noncomputable def x_Builder_PrependSlot : Ex := (xSeq (xIf (bCmp mIsNot (eVar 3) (eConst .none)) (xSeq (xExpr (eCall ([(eVar 3), (eVar 1)] ++ []) f_enforce_number)) xNil) xNil) (xSeq (xIf (bCmp mIsNot (eVar 4) (eConst .none)) (xSeq (xExpr (eCall ([(eVar 4), (eVar 1)] ++ []) f_enforce_number)) xNil) xNil) (xSeq (xIf (bOr (bCmp mNe (eVar 3) (eVar 4)) (bAnd (bVal (eAttr (eVar 0) (semSlot .builder 3))) (bCmp mIsNot (eVar 4) (eConst .none)))) (xSeq (xExpr (eMeth (eVar 0) (selI .builder) ([(eVar 1), (eVar 3)] ++ []) f_Builder_Prepend)) (xSeq (xExpr (eMeth (eVar 0) (selI .builder) ([(eVar 2)] ++ []) f_Builder_Slot)) xNil)) xNil) xNil)))
theorem body_Builder_PrependSlot : ExsOK fi_Builder_PrependSlot 3 x_Builder_PrependSlot (stPart (inSt 37 29)) :=
  (ExsOK.cons (ExOK.ite (BoOK.cmp opIsNot (EvOK.var (by rfl)) EvOK.none (by rfl)) (ExsOK.cons (ExOK.expr (by rfl) (EvOK.call (EvOK.gbl g_enforce_number (by kernel_rfl)) (KeepsOK.ref fun P => by kernel_rfl) (ok_enforce_number.le (by decide)) (EvAll.cons (EvOK.var (by rfl)) (by rfl) (EvAll.cons (EvOK.var (by rfl)) (by rfl) EvAll.nil)) EvKw.nil)) ExsOK.nil) ExsOK.nil) (ExsOK.cons (ExOK.ite (BoOK.cmp opIsNot (EvOK.var (by rfl)) EvOK.none (by rfl)) (ExsOK.cons (ExOK.expr (by rfl) (EvOK.call (EvOK.gbl g_enforce_number (by kernel_rfl)) (KeepsOK.ref fun P => by kernel_rfl) (ok_enforce_number.le (by decide)) (EvAll.cons (EvOK.var (by rfl)) (by rfl) (EvAll.cons (EvOK.var (by rfl)) (by rfl) EvAll.nil)) EvKw.nil)) ExsOK.nil) ExsOK.nil) (ExsOK.cons (ExOK.ite (BoOK.or (BoOK.cmp opNe (EvOK.var (by rfl)) (EvOK.var (by rfl)) (by rfl)) (BoOK.and (BoOK.val (by rfl) (EvOK.attr (by rfl) (attrSlot sForce) (EvOK.var (by rfl)))) (BoOK.cmp opIsNot (EvOK.var (by rfl)) EvOK.none (by rfl)))) (ExsOK.cons (ExOK.expr (by rfl) (EvOK.meth (EvOK.var (by rfl)) (by rfl) (methI m_builder_Prepend) (selI_true _) m_builder_Prepend.keeps (ok_Builder_Prepend.le (by decide)) (EvAll.cons (EvOK.var (by rfl)) (by rfl) (EvAll.cons (EvOK.var (by rfl)) (by rfl) EvAll.nil)) EvKw.nil (by rfl) (by decide))) (ExsOK.cons (ExOK.expr (by rfl) (EvOK.meth (EvOK.var (by rfl)) (by rfl) (methI m_builder_Slot) (selI_true _) m_builder_Slot.keeps (ok_Builder_Slot.le (by decide)) (EvAll.cons (EvOK.var (by rfl)) (by rfl) EvAll.nil) EvKw.nil (by rfl) (by decide))) ExsOK.nil)) ExsOK.nil) ExsOK.nil)))
noncomputable def f_Builder_PrependSlot : Fn := fDef [] (fFun fi_Builder_PrependSlot 5 x_Builder_PrependSlot)
theorem ct_Builder_PrependSlot : FnCT 4 549 [] f_Builder_PrependSlot := FnCT.def (da := []) (dv := []) def_Builder_PrependSlot body_Builder_PrependSlot (fun _ => trivial) (by decide) fun w s name doc pm an ct ps ks X h1 h2 => by
  obtain rfl := len0 h2
  have g : ps.length = 5 := h1
  obtain ⟨p0, p1, p2, p3, p4, rfl⟩ := len5 g
  exact BindsTo.of_eq (by kernel_rfl)
theorem ok_Builder_PrependSlot : FnOK 4 (.ref 549) [] f_Builder_PrependSlot := ct_Builder_PrependSlot.ok
noncomputable def fi_Builder_PrependUOffsetTRelativeSlot : FI := { addr := 626, qual := "Builder.PrependUOffsetTRelativeSlot", scope := stScope (inSt 37 40), cd := .ref 625, names := ["self", "o", "x", "d"] }
theorem def_Builder_PrependUOffsetTRelativeSlot : DefOK fi_Builder_PrependUOffsetTRelativeSlot (stParams (inSt 37 40)) (stPart (inSt 37 40)) .none .none :=
  ⟨⟨.type "function", none, "PrependUOffsetTRelativeSlot", .none, .str "flatbuffers.builder" 726, none, .none, #[], fun P => by kernel_rfl⟩, fun P => by kernel_rfl, ⟨by kernel_rfl, by decide +kernel, by decide⟩, by kernel_rfl, by kernel_rfl, by kernel_rfl, fun _ => rfl⟩
noncomputable def x_Builder_PrependUOffsetTRelativeSlot : Ex := (xSeq (xIf (bOr (bCmp mNe (eVar 2) (eVar 3)) (bVal (eAttr (eVar 0) (semSlot .builder 3)))) (xSeq (xExpr (eMeth (eVar 0) (selI .builder) ([(eVar 2)] ++ []) f_Builder_PrependUOffsetTRelative)) (xSeq (xExpr (eMeth (eVar 0) (selI .builder) ([(eVar 1)] ++ []) f_Builder_Slot)) xNil)) xNil) xNil)
theorem body_Builder_PrependUOffsetTRelativeSlot : ExsOK fi_Builder_PrependUOffsetTRelativeSlot 3 x_Builder_PrependUOffsetTRelativeSlot (stPart (inSt 37 40)) :=
  (ExsOK.cons (ExOK.ite (BoOK.or (BoOK.cmp opNe (EvOK.var (by rfl)) (EvOK.var (by rfl)) (by rfl)) (BoOK.val (by rfl) (EvOK.attr (by rfl) (attrSlot sForce) (EvOK.var (by rfl))))) (ExsOK.cons (ExOK.expr (by rfl) (EvOK.meth (EvOK.var (by rfl)) (by rfl) (methI m_builder_PrependUOffsetTRelative) (selI_true _) m_builder_PrependUOffsetTRelative.keeps (ok_Builder_PrependUOffsetTRelative.le (by decide)) (EvAll.cons (EvOK.var (by rfl)) (by rfl) EvAll.nil) EvKw.nil (by rfl) (by decide))) (ExsOK.cons (ExOK.expr (by rfl) (EvOK.meth (EvOK.var (by rfl)) (by rfl) (methI m_builder_Slot) (selI_true _) m_builder_Slot.keeps (ok_Builder_Slot.le (by decide)) (EvAll.cons (EvOK.var (by rfl)) (by rfl) EvAll.nil) EvKw.nil (by rfl) (by decide))) ExsOK.nil)) ExsOK.nil) ExsOK.nil)
noncomputable def f_Builder_PrependUOffsetTRelativeSlot : Fn := fDef [] (fFun fi_Builder_PrependUOffsetTRelativeSlot 4 x_Builder_PrependUOffsetTRelativeSlot)
theorem ct_Builder_PrependUOffsetTRelativeSlot : FnCT 4 626 [] f_Builder_PrependUOffsetTRelativeSlot := FnCT.def (da := []) (dv := []) def_Builder_PrependUOffsetTRelativeSlot body_Builder_PrependUOffsetTRelativeSlot (fun _ => trivial) (by decide) fun w s name doc pm an ct ps ks X h1 h2 => by
  obtain rfl := len0 h2
  have g : ps.length = 4 := h1
  obtain ⟨p0, p1, p2, p3, rfl⟩ := len4 g
  exact BindsTo.of_eq (by kernel_rfl)
theorem ok_Builder_PrependUOffsetTRelativeSlot : FnOK 4 (.ref 626) [] f_Builder_PrependUOffsetTRelativeSlot := ct_Builder_PrependUOffsetTRelativeSlot.ok
noncomputable def fi_Builder_StartObject : FI := { addr := 384, qual := "Builder.StartObject", scope := stScope (inSt 37 6), cd := .ref 383, names := ["self", "numfields"] }
theorem def_Builder_StartObject : DefOK fi_Builder_StartObject (stParams (inSt 37 6)) (stPart (inSt 37 6)) .none .none :=
  ⟨⟨.type "function", none, "StartObject", .none, .str "flatbuffers.builder" 726, none, .none, #[], fun P => by kernel_rfl⟩, fun P => by kernel_rfl, ⟨by kernel_rfl, by decide +kernel, by decide⟩, by kernel_rfl, by kernel_rfl, by kernel_rfl, fun _ => rfl⟩
noncomputable def x_Builder_StartObject : Ex := (xSeq (xExpr (eMeth (eVar 0) (selI .builder) ([] ++ []) f_Builder_assertNotNested)) (xSeq (xSet .builder 1 (eVar 0) (eBin fRep (eList [(eConst (.int 0))]) (eVar 1))) (xSeq (xSet .builder 7 (eVar 0) (eMeth (eVar 0) (selI .builder) ([] ++ []) f_Builder_Offset)) (xSeq (xSet .builder 6 (eVar 0) (eConst (.bool true))) xNil))))
theorem body_Builder_StartObject : ExsOK fi_Builder_StartObject 1 x_Builder_StartObject (stPart (inSt 37 6)) :=
  (ExsOK.cons (ExOK.expr (by rfl) (EvOK.meth (EvOK.var (by rfl)) (by rfl) (methI m_builder_assertNotNested) (selI_true _) m_builder_assertNotNested.keeps (ok_Builder_assertNotNested.le (by decide)) EvAll.nil EvKw.nil (by rfl) (by decide))) (ExsOK.cons (ExOK.set sVtable (by rfl) (EvOK.var (by rfl)) (EvOK.bin opRep (EvOK.list (EvAll.cons EvOK.int (by rfl) EvAll.nil) (by decide)) (EvOK.var (by rfl)))) (ExsOK.cons (ExOK.set sObjectEnd (by rfl) (EvOK.var (by rfl)) (EvOK.meth (EvOK.var (by rfl)) (by rfl) (methI m_builder_Offset) (selI_true _) m_builder_Offset.keeps (ok_Builder_Offset.le (by decide)) EvAll.nil EvKw.nil (by rfl) (by decide))) (ExsOK.cons (ExOK.set sNested (by rfl) (EvOK.var (by rfl)) EvOK.bool) ExsOK.nil))))
noncomputable def f_Builder_StartObject : Fn := fDef [] (fFun fi_Builder_StartObject 2 x_Builder_StartObject)
theorem ct_Builder_StartObject : FnCT 2 384 [] f_Builder_StartObject := FnCT.def (da := []) (dv := []) def_Builder_StartObject body_Builder_StartObject (fun _ => trivial) (by decide) fun w s name doc pm an ct ps ks X h1 h2 => by
  obtain rfl := len0 h2
  have g : ps.length = 2 := h1
  obtain ⟨p0, p1, rfl⟩ := len2 g
  exact BindsTo.of_eq (by kernel_rfl)
theorem ok_Builder_StartObject : FnOK 2 (.ref 384) [] f_Builder_StartObject := ct_Builder_StartObject.ok
noncomputable def fi_Builder_WriteVtable : FI := { addr := 391, qual := "Builder.WriteVtable", scope := stScope (inSt 37 7), cd := .ref 390, names := ["self", "objectOffset", "vtKey", "trim", "elem", "objectSize", "vt2Offset", "i", "trailing", "vBytes", "objectStart", "off"] }
theorem def_Builder_WriteVtable : DefOK fi_Builder_WriteVtable (stParams (inSt 37 7)) (stPart (inSt 37 7)) .none .none :=
  ⟨⟨.type "function", none, "WriteVtable", .none, .str "flatbuffers.builder" 726, none, .none, #[], fun P => by kernel_rfl⟩, fun P => by kernel_rfl, ⟨by kernel_rfl, by decide +kernel, by decide⟩, by kernel_rfl, by kernel_rfl, by kernel_rfl, fun _ => rfl⟩
noncomputable def x_Builder_WriteVtable : Ex := (xSeq (xExpr (eMeth (eVar 0) (selI .builder) ([(eConst (.int 0))] ++ []) f_Builder_PrependSOffsetTRelative)) (xSeq (xAsg 1 (eMeth (eVar 0) (selI .builder) ([] ++ []) f_Builder_Offset)) (xSeq (xAsg 2 (eList [])) (xSeq (xAsg 3 (eConst (.bool true))) (xSeq (xFor 4 70 (iRev (eAttr (eVar 0) (semSlot .builder 1))) (xSeq (xIf (bCmp mEq (eVar 4) (eConst (.int 0))) (xSeq (xIf (bVal (eVar 3)) (xSeq xCont xNil) xNil) xNil) (xSeq (xAsg 4 (eBin mSub (eVar 1) (eVar 4))) (xSeq (xAsg 3 (eConst (.bool false))) xNil))) (xSeq (xExpr (eMeth (eVar 2) selList ([(eVar 4)] ++ []) fAppend)) xNil))) (xSeq (xAsg 5 (eMeth (eSt (.ref 146)) selPy ([(eBin mSub (eVar 1) (eAttr (eVar 0) (semSlot .builder 7)))] ++ []) fInt)) (xSeq (xExpr (eMeth (eVar 2) selList ([(eVar 5)] ++ []) fAppend)) (xSeq (xAsg 2 (eCall ([(eVar 2)] ++ []) fTuple)) (xSeq (xAsg 6 (eMeth (eAttr (eVar 0) (semSlot .builder 10)) selDict ([(eVar 2)] ++ []) fGet)) (xSeq (xIf (bCmp mIs (eVar 6) (eConst .none)) (xSeq (xAsg 7 (eBin mSub (eCall ([(eAttr (eVar 0) (semSlot .builder 1))] ++ []) fLen) (eConst (.int 1)))) (xSeq (xAsg 8 (eConst (.int 0))) (xSeq (xAsg 3 (eConst (.bool true))) (xSeq (whileF (bCmp mGe (eVar 7) (eConst (.int 0))) (xSeq (xAsg 11 (eConst (.int 0))) (xSeq (xAsg 4 (eBin gItem (eAttr (eVar 0) (semSlot .builder 1)) (eVar 7))) (xSeq (xAug 7 mSub (eConst (.int 1))) (xSeq (xIf (bCmp mEq (eVar 4) (eConst (.int 0))) (xSeq (xIf (bVal (eVar 3)) (xSeq (xAug 8 mIAdd (eConst (.int 1))) (xSeq xCont xNil)) xNil) xNil) (xSeq (xAsg 11 (eBin mSub (eVar 1) (eVar 4))) (xSeq (xAsg 3 (eConst (.bool false))) xNil))) (xSeq (xExpr (eMeth (eVar 0) (selI .builder) ([(eVar 11)] ++ []) f_Builder_PrependVOffsetT)) xNil))))) 40) (xSeq (xExpr (eMeth (eVar 0) (selI .builder) ([(eMeth (eSt (.ref 158)) selPy ([(eVar 5)] ++ []) fInt)] ++ []) f_Builder_PrependVOffsetT)) (xSeq (xAsg 9 (eBin mAdd (eBin mSub (eCall ([(eAttr (eVar 0) (semSlot .builder 1))] ++ []) fLen) (eVar 8)) (eConst (.int 2)))) (xSeq (xAug 9 mMul (eAttr (eSt (.ref 158)) (semCls "bytewidth"))) (xSeq (xExpr (eMeth (eVar 0) (selI .builder) ([(eMeth (eSt (.ref 158)) selPy ([(eVar 9)] ++ []) fInt)] ++ []) f_Builder_PrependVOffsetT)) (xSeq (xAsg 10 (eMeth (eSt (.ref 134)) selPy ([(eBin mSub (eCall ([(eAttr (eVar 0) (semSlot .builder 0))] ++ []) fLen) (eVar 1))] ++ []) fInt)) (xSeq (xExpr (eCall ([(eSt (.ref 54)), (eAttr (eVar 0) (semSlot .builder 0)), (eVar 10), (eMeth (eSt (.ref 134)) selPy ([(eBin mSub (eMeth (eVar 0) (selI .builder) ([] ++ []) f_Builder_Offset) (eVar 1))] ++ []) fInt)] ++ []) f_Write)) (xSeq (xPut (eMeth (eVar 0) (selI .builder) ([] ++ []) f_Builder_Offset) (eAttr (eVar 0) (semSlot .builder 10)) (eVar 2)) xNil))))))))))) (xSeq (xAsg 10 (eMeth (eSt (.ref 134)) selPy ([(eBin mSub (eCall ([(eAttr (eVar 0) (semSlot .builder 0))] ++ []) fLen) (eVar 1))] ++ []) fInt)) (xSeq (xSet .builder 4 (eVar 0) (eMeth (eSt (.ref 146)) selPy ([(eVar 10)] ++ []) fInt)) (xSeq (xExpr (eCall ([(eSt (.ref 54)), (eAttr (eVar 0) (semSlot .builder 0)), (eMeth (eVar 0) (selI .builder) ([] ++ []) f_Builder_Head), (eMeth (eSt (.ref 134)) selPy ([(eBin mSub (eVar 6) (eVar 1))] ++ []) fInt)] ++ []) f_Write)) xNil)))) (xSeq (xSet .builder 1 (eVar 0) (eConst .none)) (xSeq (xRet (eVar 1)) xNil))))))))))))
theorem body_Builder_WriteVtable : ExsOK fi_Builder_WriteVtable 4 x_Builder_WriteVtable (stPart (inSt 37 7)) :=
  (ExsOK.cons (ExOK.expr (by rfl) (EvOK.meth (EvOK.var (by rfl)) (by rfl) (methI m_builder_PrependSOffsetTRelative) (selI_true _) m_builder_PrependSOffsetTRelative.keeps (ok_Builder_PrependSOffsetTRelative.le (by decide)) (EvAll.cons EvOK.int (by rfl) EvAll.nil) EvKw.nil (by rfl) (by decide))) (ExsOK.cons (ExOK.asg (by rfl) (by rfl) (EvOK.meth (EvOK.var (by rfl)) (by rfl) (methI m_builder_Offset) (selI_true _) m_builder_Offset.keeps (ok_Builder_Offset.le (by decide)) EvAll.nil EvKw.nil (by rfl) (by decide))) (ExsOK.cons (ExOK.asg (by rfl) (by rfl) (EvOK.list EvAll.nil (by decide))) (ExsOK.cons (ExOK.asg (by rfl) (by rfl) EvOK.bool) (ExsOK.cons (ExOK.for (by rfl) (IterOK.rev (EvOK.blt b_reversed (by kernel_rfl)) (EvOK.attr (by rfl) (attrSlot sVtable) (EvOK.var (by rfl))) (by rfl)) (ExsOK.cons (ExOK.ite (BoOK.cmp opEq (EvOK.var (by rfl)) EvOK.int (by rfl)) (ExsOK.cons (ExOK.ite (BoOK.val (by rfl) (EvOK.var (by rfl))) (ExsOK.cons ExOK.cont ExsOK.nil) ExsOK.nil) ExsOK.nil) (ExsOK.cons (ExOK.asg (by rfl) (by rfl) (EvOK.bin opSub (EvOK.var (by rfl)) (EvOK.var (by rfl)))) (ExsOK.cons (ExOK.asg (by rfl) (by rfl) EvOK.bool) ExsOK.nil))) (ExsOK.cons (ExOK.expr (by rfl) (EvOK.meth (EvOK.var (by rfl)) (by rfl) methAppend selList_true KeepsOK.builtin okAppend (EvAll.cons (EvOK.var (by rfl)) (by rfl) EvAll.nil) EvKw.nil (by rfl) (by decide))) ExsOK.nil)) (fun _ _ => rfl)) (ExsOK.cons (ExOK.asg (by rfl) (by rfl) (EvOK.meth (EvOK.gbl g_UOffsetTFlags (by kernel_rfl)) (by rfl) (methPy intOK) selPy_false KeepsOK.type okInt (EvAll.cons (EvOK.bin opSub (EvOK.var (by rfl)) (EvOK.attr (by rfl) (attrSlot sObjectEnd) (EvOK.var (by rfl)))) (by rfl) EvAll.nil) EvKw.nil (by rfl) (by decide))) (ExsOK.cons (ExOK.expr (by rfl) (EvOK.meth (EvOK.var (by rfl)) (by rfl) methAppend selList_true KeepsOK.builtin okAppend (EvAll.cons (EvOK.var (by rfl)) (by rfl) EvAll.nil) EvKw.nil (by rfl) (by decide))) (ExsOK.cons (ExOK.asg (by rfl) (by rfl) (EvOK.call (EvOK.blt b_tuple (by kernel_rfl)) KeepsOK.type okTuple (EvAll.cons (EvOK.var (by rfl)) (by rfl) EvAll.nil) EvKw.nil)) (ExsOK.cons (ExOK.asg (by rfl) (by rfl) (EvOK.meth (EvOK.attr (by rfl) (attrSlot sVtables) (EvOK.var (by rfl))) (by rfl) methGet selDict_true KeepsOK.builtin okGet (EvAll.cons (EvOK.var (by rfl)) (by rfl) EvAll.nil) EvKw.nil (by rfl) (by decide))) (ExsOK.cons (ExOK.ite (BoOK.cmp opIs (EvOK.var (by rfl)) EvOK.none (by rfl)) (ExsOK.cons (ExOK.asg (by rfl) (by rfl) (EvOK.bin opSub (EvOK.call (EvOK.blt b_len (by kernel_rfl)) KeepsOK.builtin okLen (EvAll.cons (EvOK.attr (by rfl) (attrSlot sVtable) (EvOK.var (by rfl))) (by rfl) EvAll.nil) EvKw.nil) EvOK.int)) (ExsOK.cons (ExOK.asg (by rfl) (by rfl) EvOK.int) (ExsOK.cons (ExOK.asg (by rfl) (by rfl) EvOK.bool) (ExsOK.cons (ExOK.while (BoOK.cmp opGe (EvOK.var (by rfl)) EvOK.int (by rfl)) (ExsOK.cons (ExOK.asg (by rfl) (by rfl) EvOK.int) (ExsOK.cons (ExOK.asg (by rfl) (by rfl) (EvOK.sub okItem (EvOK.attr (by rfl) (attrSlot sVtable) (EvOK.var (by rfl))) (EvOK.var (by rfl)))) (ExsOK.cons (ExOK.aug (by rfl) opISub EvOK.int) (ExsOK.cons (ExOK.ite (BoOK.cmp opEq (EvOK.var (by rfl)) EvOK.int (by rfl)) (ExsOK.cons (ExOK.ite (BoOK.val (by rfl) (EvOK.var (by rfl))) (ExsOK.cons (ExOK.aug (by rfl) opIAdd EvOK.int) (ExsOK.cons ExOK.cont ExsOK.nil)) ExsOK.nil) ExsOK.nil) (ExsOK.cons (ExOK.asg (by rfl) (by rfl) (EvOK.bin opSub (EvOK.var (by rfl)) (EvOK.var (by rfl)))) (ExsOK.cons (ExOK.asg (by rfl) (by rfl) EvOK.bool) ExsOK.nil))) (ExsOK.cons (ExOK.expr (by rfl) (EvOK.meth (EvOK.var (by rfl)) (by rfl) (methI m_builder_PrependVOffsetT) (selI_true _) m_builder_PrependVOffsetT.keeps (ok_Builder_PrependVOffsetT.le (by decide)) (EvAll.cons (EvOK.var (by rfl)) (by rfl) EvAll.nil) EvKw.nil (by rfl) (by decide))) ExsOK.nil)))))) (ExsOK.cons (ExOK.expr (by rfl) (EvOK.meth (EvOK.var (by rfl)) (by rfl) (methI m_builder_PrependVOffsetT) (selI_true _) m_builder_PrependVOffsetT.keeps (ok_Builder_PrependVOffsetT.le (by decide)) (EvAll.cons (EvOK.meth (EvOK.gbl g_VOffsetTFlags (by kernel_rfl)) (by rfl) (methPy intOK) selPy_false KeepsOK.type okInt (EvAll.cons (EvOK.var (by rfl)) (by rfl) EvAll.nil) EvKw.nil (by rfl) (by decide)) (by rfl) EvAll.nil) EvKw.nil (by rfl) (by decide))) (ExsOK.cons (ExOK.asg (by rfl) (by rfl) (EvOK.bin opAdd (EvOK.bin opSub (EvOK.call (EvOK.blt b_len (by kernel_rfl)) KeepsOK.builtin okLen (EvAll.cons (EvOK.attr (by rfl) (attrSlot sVtable) (EvOK.var (by rfl))) (by rfl) EvAll.nil) EvKw.nil) (EvOK.var (by rfl))) (EvOK.gblI g_VtableMetadataFields (by kernel_rfl)))) (ExsOK.cons (ExOK.aug (by rfl) opIMul (EvOK.attr (by rfl) (attrCls clsOK) (EvOK.gbl g_VOffsetTFlags (by kernel_rfl)))) (ExsOK.cons (ExOK.expr (by rfl) (EvOK.meth (EvOK.var (by rfl)) (by rfl) (methI m_builder_PrependVOffsetT) (selI_true _) m_builder_PrependVOffsetT.keeps (ok_Builder_PrependVOffsetT.le (by decide)) (EvAll.cons (EvOK.meth (EvOK.gbl g_VOffsetTFlags (by kernel_rfl)) (by rfl) (methPy intOK) selPy_false KeepsOK.type okInt (EvAll.cons (EvOK.var (by rfl)) (by rfl) EvAll.nil) EvKw.nil (by rfl) (by decide)) (by rfl) EvAll.nil) EvKw.nil (by rfl) (by decide))) (ExsOK.cons (ExOK.asg (by rfl) (by rfl) (EvOK.meth (EvOK.gbl g_SOffsetTFlags (by kernel_rfl)) (by rfl) (methPy intOK) selPy_false KeepsOK.type okInt (EvAll.cons (EvOK.bin opSub (EvOK.call (EvOK.blt b_len (by kernel_rfl)) KeepsOK.builtin okLen (EvAll.cons (EvOK.attr (by rfl) (attrSlot sBytes) (EvOK.var (by rfl))) (by rfl) EvAll.nil) EvKw.nil) (EvOK.var (by rfl))) (by rfl) EvAll.nil) EvKw.nil (by rfl) (by decide))) (ExsOK.cons (ExOK.expr (by rfl) (EvOK.call (EvOK.gbl g_Write (by kernel_rfl)) (KeepsOK.ref fun P => by kernel_rfl) (ok_Write.le (by decide)) (EvAll.cons (EvOK.gbl g_soffset (by kernel_rfl)) (by rfl) (EvAll.cons (EvOK.attr (by rfl) (attrSlot sBytes) (EvOK.var (by rfl))) (by rfl) (EvAll.cons (EvOK.var (by rfl)) (by rfl) (EvAll.cons (EvOK.meth (EvOK.gbl g_SOffsetTFlags (by kernel_rfl)) (by rfl) (methPy intOK) selPy_false KeepsOK.type okInt (EvAll.cons (EvOK.bin opSub (EvOK.meth (EvOK.var (by rfl)) (by rfl) (methI m_builder_Offset) (selI_true _) m_builder_Offset.keeps (ok_Builder_Offset.le (by decide)) EvAll.nil EvKw.nil (by rfl) (by decide)) (EvOK.var (by rfl))) (by rfl) EvAll.nil) EvKw.nil (by rfl) (by decide)) (by rfl) EvAll.nil)))) EvKw.nil)) (ExsOK.cons (ExOK.put (by rfl) (EvOK.meth (EvOK.var (by rfl)) (by rfl) (methI m_builder_Offset) (selI_true _) m_builder_Offset.keeps (ok_Builder_Offset.le (by decide)) EvAll.nil EvKw.nil (by rfl) (by decide)) (EvOK.attr (by rfl) (attrSlot sVtables) (EvOK.var (by rfl))) (EvOK.var (by rfl))) ExsOK.nil))))))))))) (ExsOK.cons (ExOK.asg (by rfl) (by rfl) (EvOK.meth (EvOK.gbl g_SOffsetTFlags (by kernel_rfl)) (by rfl) (methPy intOK) selPy_false KeepsOK.type okInt (EvAll.cons (EvOK.bin opSub (EvOK.call (EvOK.blt b_len (by kernel_rfl)) KeepsOK.builtin okLen (EvAll.cons (EvOK.attr (by rfl) (attrSlot sBytes) (EvOK.var (by rfl))) (by rfl) EvAll.nil) EvKw.nil) (EvOK.var (by rfl))) (by rfl) EvAll.nil) EvKw.nil (by rfl) (by decide))) (ExsOK.cons (ExOK.set sHead (by rfl) (EvOK.var (by rfl)) (EvOK.meth (EvOK.gbl g_UOffsetTFlags (by kernel_rfl)) (by rfl) (methPy intOK) selPy_false KeepsOK.type okInt (EvAll.cons (EvOK.var (by rfl)) (by rfl) EvAll.nil) EvKw.nil (by rfl) (by decide))) (ExsOK.cons (ExOK.expr (by rfl) (EvOK.call (EvOK.gbl g_Write (by kernel_rfl)) (KeepsOK.ref fun P => by kernel_rfl) (ok_Write.le (by decide)) (EvAll.cons (EvOK.gbl g_soffset (by kernel_rfl)) (by rfl) (EvAll.cons (EvOK.attr (by rfl) (attrSlot sBytes) (EvOK.var (by rfl))) (by rfl) (EvAll.cons (EvOK.meth (EvOK.var (by rfl)) (by rfl) (methI m_builder_Head) (selI_true _) m_builder_Head.keeps (ok_Builder_Head.le (by decide)) EvAll.nil EvKw.nil (by rfl) (by decide)) (by rfl) (EvAll.cons (EvOK.meth (EvOK.gbl g_SOffsetTFlags (by kernel_rfl)) (by rfl) (methPy intOK) selPy_false KeepsOK.type okInt (EvAll.cons (EvOK.bin opSub (EvOK.var (by rfl)) (EvOK.var (by rfl))) (by rfl) EvAll.nil) EvKw.nil (by rfl) (by decide)) (by rfl) EvAll.nil)))) EvKw.nil)) ExsOK.nil)))) (ExsOK.cons (ExOK.set sVtable (by rfl) (EvOK.var (by rfl)) EvOK.none) (ExsOK.cons (ExOK.ret (EvOK.var (by rfl))) ExsOK.nil))))))))))))
noncomputable def f_Builder_WriteVtable : Fn := fDef [] (fFun fi_Builder_WriteVtable 1 x_Builder_WriteVtable)
theorem ct_Builder_WriteVtable : FnCT 5 391 [] f_Builder_WriteVtable := FnCT.def (da := []) (dv := []) def_Builder_WriteVtable body_Builder_WriteVtable (fun _ => trivial) (by decide) fun w s name doc pm an ct ps ks X h1 h2 => by
  obtain rfl := len0 h2
  have g : ps.length = 1 := h1
  obtain ⟨p0, rfl⟩ := len1 g
  exact BindsTo.of_eq (by kernel_rfl)
theorem ok_Builder_WriteVtable : FnOK 5 (.ref 391) [] f_Builder_WriteVtable := ct_Builder_WriteVtable.ok
noncomputable def fi_Builder_EndObject : FI := { addr := 398, qual := "Builder.EndObject", scope := stScope (inSt 37 8), cd := .ref 397, names := ["self"] }
theorem def_Builder_EndObject : DefOK fi_Builder_EndObject (stParams (inSt 37 8)) (stPart (inSt 37 8)) .none .none :=
  ⟨⟨.type "function", none, "EndObject", .none, .str "flatbuffers.builder" 726, none, .none, #[], fun P => by kernel_rfl⟩, fun P => by kernel_rfl, ⟨by kernel_rfl, by decide +kernel, by decide⟩, by kernel_rfl, by kernel_rfl, by kernel_rfl, fun _ => rfl⟩
noncomputable def x_Builder_EndObject : Ex := (xSeq (xExpr (eMeth (eVar 0) (selI .builder) ([] ++ []) f_Builder_assertNested)) (xSeq (xSet .builder 6 (eVar 0) (eConst (.bool false))) (xSeq (xRet (eMeth (eVar 0) (selI .builder) ([] ++ []) f_Builder_WriteVtable)) xNil)))
theorem body_Builder_EndObject : ExsOK fi_Builder_EndObject 5 x_Builder_EndObject (stPart (inSt 37 8)) :=
  (ExsOK.cons (ExOK.expr (by rfl) (EvOK.meth (EvOK.var (by rfl)) (by rfl) (methI m_builder_assertNested) (selI_true _) m_builder_assertNested.keeps (ok_Builder_assertNested.le (by decide)) EvAll.nil EvKw.nil (by rfl) (by decide))) (ExsOK.cons (ExOK.set sNested (by rfl) (EvOK.var (by rfl)) EvOK.bool) (ExsOK.cons (ExOK.ret (EvOK.meth (EvOK.var (by rfl)) (by rfl) (methI m_builder_WriteVtable) (selI_true _) m_builder_WriteVtable.keeps (ok_Builder_WriteVtable.le (by decide)) EvAll.nil EvKw.nil (by rfl) (by decide))) ExsOK.nil)))
noncomputable def f_Builder_EndObject : Fn := fDef [] (fFun fi_Builder_EndObject 1 x_Builder_EndObject)
theorem ct_Builder_EndObject : FnCT 6 398 [] f_Builder_EndObject := FnCT.def (da := []) (dv := []) def_Builder_EndObject body_Builder_EndObject (fun _ => trivial) (by decide) fun w s name doc pm an ct ps ks X h1 h2 => by
  obtain rfl := len0 h2
  have g : ps.length = 1 := h1
  obtain ⟨p0, rfl⟩ := len1 g
  exact BindsTo.of_eq (by kernel_rfl)
theorem ok_Builder_EndObject : FnOK 6 (.ref 398) [] f_Builder_EndObject := ct_Builder_EndObject.ok
noncomputable def fi_Builder_Output : FI := { addr := 377, qual := "Builder.Output", scope := stScope (inSt 37 5), cd := .ref 376, names := ["self"] }
theorem def_Builder_Output : DefOK fi_Builder_Output (stParams (inSt 37 5)) (stPart (inSt 37 5)) .none .none :=
  ⟨⟨.type "function", none, "Output", .none, .str "flatbuffers.builder" 726, none, .none, #[], fun P => by kernel_rfl⟩, fun P => by kernel_rfl, ⟨by kernel_rfl, by decide +kernel, by decide⟩, by kernel_rfl, by kernel_rfl, by kernel_rfl, fun _ => rfl⟩
noncomputable def x_Builder_Output : Ex := (xSeq (xIf (bNot (bVal (eAttr (eVar 0) (semSlot .builder 2)))) xNo xNil) (xSeq (xRet (eCut (eAttr (eVar 0) (semSlot .builder 0)) (some (eAttr (eVar 0) (semSlot .builder 4))) none)) xNil))
theorem body_Builder_Output : ExsOK fi_Builder_Output 0 x_Builder_Output (stPart (inSt 37 5)) :=
  (ExsOK.cons (ExOK.ite (BoOK.not (BoOK.val (by rfl) (EvOK.attr (by rfl) (attrSlot sFinished) (EvOK.var (by rfl))))) ExsOK.no ExsOK.nil) (ExsOK.cons (ExOK.ret (EvOK.cut (EvOK.attr (by rfl) (attrSlot sBytes) (EvOK.var (by rfl))) (OptOK.so (EvOK.attr (by rfl) (attrSlot sHead) (EvOK.var (by rfl)))) OptOK.no)) ExsOK.nil))
noncomputable def f_Builder_Output : Fn := fDef [] (fFun fi_Builder_Output 1 x_Builder_Output)
theorem ct_Builder_Output : FnCT 1 377 [] f_Builder_Output := FnCT.def (da := []) (dv := []) def_Builder_Output body_Builder_Output (fun _ => trivial) (by decide) fun w s name doc pm an ct ps ks X h1 h2 => by
  obtain rfl := len0 h2
  have g : ps.length = 1 := h1
  obtain ⟨p0, rfl⟩ := len1 g
  exact BindsTo.of_eq (by kernel_rfl)
theorem ok_Builder_Output : FnOK 1 (.ref 377) [] f_Builder_Output := ct_Builder_Output.ok
noncomputable def fi_Builder__Finish : FI := { addr := 519, qual := "Builder.__Finish", scope := stScope (inSt 37 25), cd := .ref 518, names := ["self", "rootTable", "sizePrefix", "file_identifier", "prepSize", "i", "size"] }
theorem def_Builder__Finish : DefOK fi_Builder__Finish (stParams (inSt 37 25)) (stPart (inSt 37 25)) (.ref 512) .none :=
  ⟨⟨.type "function", none, "__Finish", .none, .str "flatbuffers.builder" 726, none, .none, #[], fun P => by kernel_rfl⟩, fun P => by kernel_rfl, ⟨by kernel_rfl, by decide +kernel, by decide⟩, by kernel_rfl, by kernel_rfl, by kernel_rfl, fun _ => rfl⟩
noncomputable def x_Builder__Finish : Ex := (xSeq (xExpr (eCall ([(eVar 1), (eSt (.ref 146))] ++ []) f_enforce_number)) (xSeq (xAsg 4 (eAttr (eSt (.ref 146)) (semCls "bytewidth"))) (xSeq (xIf (bCmp mIsNot (eVar 3) (eConst .none)) (xSeq (xAug 4 mIAdd (eAttr (eSt (.ref 120)) (semCls "bytewidth"))) xNil) xNil) (xSeq (xIf (bVal (eVar 2)) (xSeq (xAug 4 mIAdd (eAttr (eSt (.ref 120)) (semCls "bytewidth"))) xNil) xNil) (xSeq (xExpr (eMeth (eVar 0) (selI .builder) ([(eAttr (eVar 0) (semSlot .builder 5)), (eVar 4)] ++ []) f_Builder_Prep)) (xSeq (xIf (bCmp mIsNot (eVar 3) (eConst .none)) (xSeq (xExpr (eMeth (eVar 0) (selI .builder) ([(eAttr (eSt (.ref 146)) (semCls "bytewidth")), (eConst (.int 4))] ++ []) f_Builder_Prep)) (xSeq (xAsg 3 (eCall ([(eConst (.str ">BBBB")), (eVar 3)] ++ []) fUnpack4)) (xSeq (xFor 5 70 (iRange [(eBin mSub (eConst (.int 4)) (eConst (.int 1))), (eUn mNeg (eConst (.int 1))), (eUn mNeg (eConst (.int 1)))]) (xSeq (xExpr (eMeth (eVar 0) (selI .builder) ([(eBin gItem (eVar 3) (eVar 5)), (eSt (.ref 64))] ++ []) f_Builder_Place)) xNil)) xNil))) xNil) (xSeq (xExpr (eMeth (eVar 0) (selI .builder) ([(eVar 1)] ++ []) f_Builder_PrependUOffsetTRelative)) (xSeq (xIf (bVal (eVar 2)) (xSeq (xAsg 6 (eBin mSub (eCall ([(eAttr (eVar 0) (semSlot .builder 0))] ++ []) fLen) (eAttr (eVar 0) (semSlot .builder 4)))) (xSeq (xExpr (eCall ([(eVar 6), (eSt (.ref 120))] ++ []) f_enforce_number)) (xSeq (xExpr (eMeth (eVar 0) (selI .builder) ([(eVar 6)] ++ []) f_Builder_PrependInt32)) xNil))) xNil) (xSeq (xSet .builder 2 (eVar 0) (eConst (.bool true))) (xSeq (xRet (eAttr (eVar 0) (semSlot .builder 4))) xNil))))))))))
theorem body_Builder__Finish : ExsOK fi_Builder__Finish 4 x_Builder__Finish (stPart (inSt 37 25)) :=
  (ExsOK.cons (ExOK.expr (by rfl) (EvOK.call (EvOK.gbl g_enforce_number (by kernel_rfl)) (KeepsOK.ref fun P => by kernel_rfl) (ok_enforce_number.le (by decide)) (EvAll.cons (EvOK.var (by rfl)) (by rfl) (EvAll.cons (EvOK.gbl g_UOffsetTFlags (by kernel_rfl)) (by rfl) EvAll.nil)) EvKw.nil)) (ExsOK.cons (ExOK.asg (by rfl) (by rfl) (EvOK.attr (by rfl) (attrCls clsOK) (EvOK.gbl g_UOffsetTFlags (by kernel_rfl)))) (ExsOK.cons (ExOK.ite (BoOK.cmp opIsNot (EvOK.var (by rfl)) EvOK.none (by rfl)) (ExsOK.cons (ExOK.aug (by rfl) opIAdd (EvOK.attr (by rfl) (attrCls clsOK) (EvOK.gbl g_Int32Flags (by kernel_rfl)))) ExsOK.nil) ExsOK.nil) (ExsOK.cons (ExOK.ite (BoOK.val (by rfl) (EvOK.var (by rfl))) (ExsOK.cons (ExOK.aug (by rfl) opIAdd (EvOK.attr (by rfl) (attrCls clsOK) (EvOK.gbl g_Int32Flags (by kernel_rfl)))) ExsOK.nil) ExsOK.nil) (ExsOK.cons (ExOK.expr (by rfl) (EvOK.meth (EvOK.var (by rfl)) (by rfl) (methI m_builder_Prep) (selI_true _) m_builder_Prep.keeps (ok_Builder_Prep.le (by decide)) (EvAll.cons (EvOK.attr (by rfl) (attrSlot sMinalign) (EvOK.var (by rfl))) (by rfl) (EvAll.cons (EvOK.var (by rfl)) (by rfl) EvAll.nil)) EvKw.nil (by rfl) (by decide))) (ExsOK.cons (ExOK.ite (BoOK.cmp opIsNot (EvOK.var (by rfl)) EvOK.none (by rfl)) (ExsOK.cons (ExOK.expr (by rfl) (EvOK.meth (EvOK.var (by rfl)) (by rfl) (methI m_builder_Prep) (selI_true _) m_builder_Prep.keeps (ok_Builder_Prep.le (by decide)) (EvAll.cons (EvOK.attr (by rfl) (attrCls clsOK) (EvOK.gbl g_UOffsetTFlags (by kernel_rfl))) (by rfl) (EvAll.cons (EvOK.gblI g_FILE_IDENTIFIER_LENGTH (by kernel_rfl)) (by rfl) EvAll.nil)) EvKw.nil (by rfl) (by decide))) (ExsOK.cons (ExOK.asg (by rfl) (by rfl) (EvOK.call (EvOK.gbl g_unpack (by kernel_rfl)) KeepsOK.builtin okUnpack4 (EvAll.cons EvOK.str (by rfl) (EvAll.cons (EvOK.var (by rfl)) (by rfl) EvAll.nil)) EvKw.nil)) (ExsOK.cons (ExOK.for (by rfl) (IterOK.range (EvOK.blt b_range (by kernel_rfl)) (EvAll.cons (EvOK.bin opSub (EvOK.gblI g_FILE_IDENTIFIER_LENGTH (by kernel_rfl)) EvOK.int) (by rfl) (EvAll.cons (EvOK.un opNeg EvOK.int) (by rfl) (EvAll.cons (EvOK.un opNeg EvOK.int) (by rfl) EvAll.nil)))) (ExsOK.cons (ExOK.expr (by rfl) (EvOK.meth (EvOK.var (by rfl)) (by rfl) (methI m_builder_Place) (selI_true _) m_builder_Place.keeps (ok_Builder_Place.le (by decide)) (EvAll.cons (EvOK.sub okItem (EvOK.var (by rfl)) (EvOK.var (by rfl))) (by rfl) (EvAll.cons (EvOK.gbl g_Uint8Flags (by kernel_rfl)) (by rfl) EvAll.nil)) EvKw.nil (by rfl) (by decide))) ExsOK.nil) (fun _ _ => rfl)) ExsOK.nil))) ExsOK.nil) (ExsOK.cons (ExOK.expr (by rfl) (EvOK.meth (EvOK.var (by rfl)) (by rfl) (methI m_builder_PrependUOffsetTRelative) (selI_true _) m_builder_PrependUOffsetTRelative.keeps (ok_Builder_PrependUOffsetTRelative.le (by decide)) (EvAll.cons (EvOK.var (by rfl)) (by rfl) EvAll.nil) EvKw.nil (by rfl) (by decide))) (ExsOK.cons (ExOK.ite (BoOK.val (by rfl) (EvOK.var (by rfl))) (ExsOK.cons (ExOK.asg (by rfl) (by rfl) (EvOK.bin opSub (EvOK.call (EvOK.blt b_len (by kernel_rfl)) KeepsOK.builtin okLen (EvAll.cons (EvOK.attr (by rfl) (attrSlot sBytes) (EvOK.var (by rfl))) (by rfl) EvAll.nil) EvKw.nil) (EvOK.attr (by rfl) (attrSlot sHead) (EvOK.var (by rfl))))) (ExsOK.cons (ExOK.expr (by rfl) (EvOK.call (EvOK.gbl g_enforce_number (by kernel_rfl)) (KeepsOK.ref fun P => by kernel_rfl) (ok_enforce_number.le (by decide)) (EvAll.cons (EvOK.var (by rfl)) (by rfl) (EvAll.cons (EvOK.gbl g_Int32Flags (by kernel_rfl)) (by rfl) EvAll.nil)) EvKw.nil)) (ExsOK.cons (ExOK.expr (by rfl) (EvOK.meth (EvOK.var (by rfl)) (by rfl) (methI m_builder_PrependInt32) (selI_true _) m_builder_PrependInt32.keeps (ok_Builder_PrependInt32.le (by decide)) (EvAll.cons (EvOK.var (by rfl)) (by rfl) EvAll.nil) EvKw.nil (by rfl) (by decide))) ExsOK.nil))) ExsOK.nil) (ExsOK.cons (ExOK.set sFinished (by rfl) (EvOK.var (by rfl)) EvOK.bool) (ExsOK.cons (ExOK.ret (EvOK.attr (by rfl) (attrSlot sHead) (EvOK.var (by rfl)))) ExsOK.nil))))))))))
noncomputable def f_Builder__Finish : Fn := fDef [] (fFun fi_Builder__Finish 4 x_Builder__Finish)
theorem dflt_Builder__Finish (P : Params) : (hK P).lookup 512 = some ⟨.type "tuple", none, .seq #[.none] 0, #[]⟩ := by kernel_rfl
theorem ct_Builder__Finish : FnCT 5 519 ["file_identifier"] f_Builder__Finish := FnCT.def (da := []) (dv := []) def_Builder__Finish body_Builder__Finish (fun _ => trivial) (by decide) fun w s name doc pm an ct ps ks X h1 h2 => by
  obtain ⟨k0, rfl⟩ := len1 h2
  have g : ps.length = 3 := Nat.succ.inj (h1)
  obtain ⟨p0, p1, p2, rfl⟩ := len3 g
  exact BindsTo.of_defaults rfl (X _ _ (dflt_Builder__Finish _)) rfl rfl rfl
theorem ok_Builder__Finish : FnOK 5 (.ref 519) ["file_identifier"] f_Builder__Finish := ct_Builder__Finish.ok
noncomputable def fi_Builder_Finish : FI := { addr := 527, qual := "Builder.Finish", scope := stScope (inSt 37 26), cd := .ref 526, names := ["self", "rootTable", "file_identifier"] }
theorem def_Builder_Finish : DefOK fi_Builder_Finish (stParams (inSt 37 26)) (stPart (inSt 37 26)) (.ref 520) .none :=
  ⟨⟨.type "function", none, "Finish", .none, .str "flatbuffers.builder" 726, none, .none, #[], fun P => by kernel_rfl⟩, fun P => by kernel_rfl, ⟨by kernel_rfl, by decide +kernel, by decide⟩, by kernel_rfl, by kernel_rfl, by kernel_rfl, fun _ => rfl⟩
noncomputable def x_Builder_Finish : Ex := (xSeq (xRet (eMeth (eVar 0) (selI .builder) ([(eVar 1), (eConst (.bool false))] ++ [(eVar 2)]) f_Builder__Finish)) xNil)
theorem body_Builder_Finish : ExsOK fi_Builder_Finish 5 x_Builder_Finish (stPart (inSt 37 26)) :=
  (ExsOK.cons (ExOK.ret (EvOK.meth (EvOK.var (by rfl)) (by rfl) (methI m_builder_Builder__Finish) (selI_true _) m_builder_Builder__Finish.keeps (ok_Builder__Finish.le (by decide)) (EvAll.cons (EvOK.var (by rfl)) (by rfl) (EvAll.cons EvOK.bool (by rfl) EvAll.nil)) (EvKw.cons (EvOK.var (by rfl)) EvKw.nil) (by rfl) (by decide))) ExsOK.nil)
noncomputable def f_Builder_Finish : Fn := fDef [] (fFun fi_Builder_Finish 3 x_Builder_Finish)
theorem dflt_Builder_Finish (P : Params) : (hK P).lookup 520 = some ⟨.type "tuple", none, .seq #[.none] 0, #[]⟩ := by kernel_rfl
theorem ct_Builder_Finish : FnCT 6 527 ["file_identifier"] f_Builder_Finish := FnCT.def (da := []) (dv := []) def_Builder_Finish body_Builder_Finish (fun _ => trivial) (by decide) fun w s name doc pm an ct ps ks X h1 h2 => by
  obtain ⟨k0, rfl⟩ := len1 h2
  have g : ps.length = 2 := Nat.succ.inj (h1)
  obtain ⟨p0, p1, rfl⟩ := len2 g
  exact BindsTo.of_defaults rfl (X _ _ (dflt_Builder_Finish _)) rfl rfl rfl
theorem ok_Builder_Finish : FnOK 6 (.ref 527) ["file_identifier"] f_Builder_Finish := ct_Builder_Finish.ok
noncomputable def fi_Builder_FinishSizePrefixed : FI := { addr := 535, qual := "Builder.FinishSizePrefixed", scope := stScope (inSt 37 27), cd := .ref 534, names := ["self", "rootTable", "file_identifier"] }
theorem def_Builder_FinishSizePrefixed : DefOK fi_Builder_FinishSizePrefixed (stParams (inSt 37 27)) (stPart (inSt 37 27)) (.ref 528) .none :=
  ⟨⟨.type "function", none, "FinishSizePrefixed", .none, .str "flatbuffers.builder" 726, none, .none, #[], fun P => by kernel_rfl⟩, fun P => by kernel_rfl, ⟨by kernel_rfl, by decide +kernel, by decide⟩, by kernel_rfl, by kernel_rfl, by kernel_rfl, fun _ => rfl⟩
noncomputable def x_Builder_FinishSizePrefixed : Ex := (xSeq (xRet (eMeth (eVar 0) (selI .builder) ([(eVar 1), (eConst (.bool true))] ++ [(eVar 2)]) f_Builder__Finish)) xNil)
theorem body_Builder_FinishSizePrefixed : ExsOK fi_Builder_FinishSizePrefixed 5 x_Builder_FinishSizePrefixed (stPart (inSt 37 27)) :=
  (ExsOK.cons (ExOK.ret (EvOK.meth (EvOK.var (by rfl)) (by rfl) (methI m_builder_Builder__Finish) (selI_true _) m_builder_Builder__Finish.keeps (ok_Builder__Finish.le (by decide)) (EvAll.cons (EvOK.var (by rfl)) (by rfl) (EvAll.cons EvOK.bool (by rfl) EvAll.nil)) (EvKw.cons (EvOK.var (by rfl)) EvKw.nil) (by rfl) (by decide))) ExsOK.nil)
noncomputable def f_Builder_FinishSizePrefixed : Fn := fDef [] (fFun fi_Builder_FinishSizePrefixed 3 x_Builder_FinishSizePrefixed)
theorem dflt_Builder_FinishSizePrefixed (P : Params) : (hK P).lookup 528 = some ⟨.type "tuple", none, .seq #[.none] 0, #[]⟩ := by kernel_rfl
theorem ct_Builder_FinishSizePrefixed : FnCT 6 535 ["file_identifier"] f_Builder_FinishSizePrefixed := FnCT.def (da := []) (dv := []) def_Builder_FinishSizePrefixed body_Builder_FinishSizePrefixed (fun _ => trivial) (by decide) fun w s name doc pm an ct ps ks X h1 h2 => by
  obtain ⟨k0, rfl⟩ := len1 h2
  have g : ps.length = 2 := Nat.succ.inj (h1)
  obtain ⟨p0, p1, rfl⟩ := len2 g
  exact BindsTo.of_defaults rfl (X _ _ (dflt_Builder_FinishSizePrefixed _)) rfl rfl rfl
theorem ok_Builder_FinishSizePrefixed : FnOK 6 (.ref 535) ["file_identifier"] f_Builder_FinishSizePrefixed := ct_Builder_FinishSizePrefixed.ok
noncomputable def fi_Table__init : FI := { addr := 196, qual := "Table.__init__", scope := stScope (inSt 26 1), cd := .ref 195, names := ["self", "buf", "pos"] }
theorem def_Table__init : DefOK fi_Table__init (stParams (inSt 26 1)) (stPart (inSt 26 1)) .none .none :=
  ⟨⟨.type "function", none, "__init__", .none, .str "flatbuffers.table" 604, none, .none, #[], fun P => by kernel_rfl⟩, fun P => by kernel_rfl, ⟨by kernel_rfl, by decide +kernel, by decide⟩, by kernel_rfl, by kernel_rfl, by kernel_rfl, fun _ => rfl⟩
noncomputable def x_Table__init : Ex := (xSeq (xExpr (eCall ([(eVar 2), (eSt (.ref 146))] ++ []) f_enforce_number)) (xSeq (xSet .table 0 (eVar 0) (eVar 1)) (xSeq (xSet .table 1 (eVar 0) (eVar 2)) xNil)))
theorem body_Table__init : ExsOK fi_Table__init 1 x_Table__init (stPart (inSt 26 1)) :=
  (ExsOK.cons (ExOK.expr (by rfl) (EvOK.call (EvOK.gbl g_enforce_number (by kernel_rfl)) (KeepsOK.ref fun P => by kernel_rfl) (ok_enforce_number.le (by decide)) (EvAll.cons (EvOK.var (by rfl)) (by rfl) (EvAll.cons (EvOK.gbl g_UOffsetTFlags (by kernel_rfl)) (by rfl) EvAll.nil)) EvKw.nil)) (ExsOK.cons (ExOK.set tBytes (by rfl) (EvOK.var (by rfl)) (EvOK.var (by rfl))) (ExsOK.cons (ExOK.set tPos (by rfl) (EvOK.var (by rfl)) (EvOK.var (by rfl))) ExsOK.nil)))
noncomputable def f_Table__init : Fn := fDef [] (fFun fi_Table__init 3 x_Table__init)
theorem ct_Table__init : FnCT 2 196 [] f_Table__init := FnCT.def (da := []) (dv := []) def_Table__init body_Table__init (fun _ => trivial) (by decide) fun w s name doc pm an ct ps ks X h1 h2 => by
  obtain rfl := len0 h2
  have g : ps.length = 3 := h1
  obtain ⟨p0, p1, p2, rfl⟩ := len3 g
  exact BindsTo.of_eq (by kernel_rfl)
theorem ok_Table__init : FnOK 2 (.ref 196) [] f_Table__init := ct_Table__init.ok
noncomputable def f_newTable : Fn := fNew .table f_Table__init
theorem ok_newTable : FnOK 3 (.ref 263) [] f_newTable := FnOK.new newTable ok_Table__init
noncomputable def fi_Table_Get : FI := { addr := 245, qual := "Table.Get", scope := stScope (inSt 26 8), cd := .ref 244, names := ["self", "flags", "off"] }
theorem def_Table_Get : DefOK fi_Table_Get (stParams (inSt 26 8)) (stPart (inSt 26 8)) .none .none :=
  ⟨⟨.type "function", none, "Get", .none, .str "flatbuffers.table" 604, none, .none, #[], fun P => by kernel_rfl⟩, fun P => by kernel_rfl, ⟨by kernel_rfl, by decide +kernel, by decide⟩, by kernel_rfl, by kernel_rfl, by kernel_rfl, fun _ => rfl⟩
noncomputable def x_Table_Get : Ex := (xSeq (xExpr (eCall ([(eVar 2), (eSt (.ref 146))] ++ []) f_enforce_number)) (xSeq (xRet (eMeth (eVar 1) selPy ([(eCall ([(eAttr (eVar 1) (semCls "packer_type")), (eAttr (eVar 0) (semSlot .table 0)), (eVar 2)] ++ []) f_Get)] ++ []) fInt)) xNil))
theorem body_Table_Get : ExsOK fi_Table_Get 1 x_Table_Get (stPart (inSt 26 8)) :=
  (ExsOK.cons (ExOK.expr (by rfl) (EvOK.call (EvOK.gbl g_enforce_number (by kernel_rfl)) (KeepsOK.ref fun P => by kernel_rfl) (ok_enforce_number.le (by decide)) (EvAll.cons (EvOK.var (by rfl)) (by rfl) (EvAll.cons (EvOK.gbl g_UOffsetTFlags (by kernel_rfl)) (by rfl) EvAll.nil)) EvKw.nil)) (ExsOK.cons (ExOK.ret (EvOK.meth (EvOK.var (by rfl)) (by rfl) (methPy intOK) selPy_false KeepsOK.type okInt (EvAll.cons (EvOK.call (EvOK.gbl g_Get_encode (by kernel_rfl)) (KeepsOK.ref fun P => by kernel_rfl) (ok_Get.le (by decide)) (EvAll.cons (EvOK.attr (by rfl) (attrCls clsOK) (EvOK.var (by rfl))) (by rfl) (EvAll.cons (EvOK.attr (by rfl) (attrSlot tBytes) (EvOK.var (by rfl))) (by rfl) (EvAll.cons (EvOK.var (by rfl)) (by rfl) EvAll.nil))) EvKw.nil) (by rfl) EvAll.nil) EvKw.nil (by rfl) (by decide))) ExsOK.nil))
noncomputable def f_Table_Get : Fn := fDef [] (fFun fi_Table_Get 3 x_Table_Get)
theorem ct_Table_Get : FnCT 2 245 [] f_Table_Get := FnCT.def (da := []) (dv := []) def_Table_Get body_Table_Get (fun _ => trivial) (by decide) fun w s name doc pm an ct ps ks X h1 h2 => by
  obtain rfl := len0 h2
  have g : ps.length = 3 := h1
  obtain ⟨p0, p1, p2, rfl⟩ := len3 g
  exact BindsTo.of_eq (by kernel_rfl)
theorem ok_Table_Get : FnOK 2 (.ref 245) [] f_Table_Get := ct_Table_Get.ok
noncomputable def fi_Table_Offset : FI := { addr := 203, qual := "Table.Offset", scope := stScope (inSt 26 2), cd := .ref 202, names := ["self", "vtableOffset", "vtable", "vtableEnd"] }
theorem def_Table_Offset : DefOK fi_Table_Offset (stParams (inSt 26 2)) (stPart (inSt 26 2)) .none .none :=
  ⟨⟨.type "function", none, "Offset", .none, .str "flatbuffers.table" 604, none, .none, #[], fun P => by kernel_rfl⟩, fun P => by kernel_rfl, ⟨by kernel_rfl, by decide +kernel, by decide⟩, by kernel_rfl, by kernel_rfl, by kernel_rfl, fun _ => rfl⟩
noncomputable def x_Table_Offset : Ex := (xSeq (xAsg 2 (eBin mSub (eAttr (eVar 0) (semSlot .table 1)) (eMeth (eVar 0) (selI .table) ([(eSt (.ref 134)), (eAttr (eVar 0) (semSlot .table 1))] ++ []) f_Table_Get))) (xSeq (xAsg 3 (eMeth (eVar 0) (selI .table) ([(eSt (.ref 158)), (eVar 2)] ++ []) f_Table_Get)) (xSeq (xIf (bCmp mLt (eVar 1) (eVar 3)) (xSeq (xRet (eMeth (eVar 0) (selI .table) ([(eSt (.ref 158)), (eBin mAdd (eVar 2) (eVar 1))] ++ []) f_Table_Get)) xNil) xNil) (xSeq (xRet (eConst (.int 0))) xNil))))
theorem body_Table_Offset : ExsOK fi_Table_Offset 2 x_Table_Offset (stPart (inSt 26 2)) :=
  (ExsOK.cons (ExOK.asg (by rfl) (by rfl) (EvOK.bin opSub (EvOK.attr (by rfl) (attrSlot tPos) (EvOK.var (by rfl))) (EvOK.meth (EvOK.var (by rfl)) (by rfl) (methI m_table_Get) (selI_true _) m_table_Get.keeps (ok_Table_Get.le (by decide)) (EvAll.cons (EvOK.gbl g_SOffsetTFlags (by kernel_rfl)) (by rfl) (EvAll.cons (EvOK.attr (by rfl) (attrSlot tPos) (EvOK.var (by rfl))) (by rfl) EvAll.nil)) EvKw.nil (by rfl) (by decide)))) (ExsOK.cons (ExOK.asg (by rfl) (by rfl) (EvOK.meth (EvOK.var (by rfl)) (by rfl) (methI m_table_Get) (selI_true _) m_table_Get.keeps (ok_Table_Get.le (by decide)) (EvAll.cons (EvOK.gbl g_VOffsetTFlags (by kernel_rfl)) (by rfl) (EvAll.cons (EvOK.var (by rfl)) (by rfl) EvAll.nil)) EvKw.nil (by rfl) (by decide))) (ExsOK.cons (ExOK.ite (BoOK.cmp opLt (EvOK.var (by rfl)) (EvOK.var (by rfl)) (by rfl)) (ExsOK.cons (ExOK.ret (EvOK.meth (EvOK.var (by rfl)) (by rfl) (methI m_table_Get) (selI_true _) m_table_Get.keeps (ok_Table_Get.le (by decide)) (EvAll.cons (EvOK.gbl g_VOffsetTFlags (by kernel_rfl)) (by rfl) (EvAll.cons (EvOK.bin opAdd (EvOK.var (by rfl)) (EvOK.var (by rfl))) (by rfl) EvAll.nil)) EvKw.nil (by rfl) (by decide))) ExsOK.nil) ExsOK.nil) (ExsOK.cons (ExOK.ret EvOK.int) ExsOK.nil))))
noncomputable def f_Table_Offset : Fn := fDef [] (fFun fi_Table_Offset 2 x_Table_Offset)
theorem ct_Table_Offset : FnCT 3 203 [] f_Table_Offset := FnCT.def (da := []) (dv := []) def_Table_Offset body_Table_Offset (fun _ => trivial) (by decide) fun w s name doc pm an ct ps ks X h1 h2 => by
  obtain rfl := len0 h2
  have g : ps.length = 2 := h1
  obtain ⟨p0, p1, rfl⟩ := len2 g
  exact BindsTo.of_eq (by kernel_rfl)
theorem ok_Table_Offset : FnOK 3 (.ref 203) [] f_Table_Offset := ct_Table_Offset.ok
noncomputable def fi_Table_String : FI := { addr := 217, qual := "Table.String", scope := stScope (inSt 26 4), cd := .ref 216, names := ["self", "off", "start", "length"] }
theorem def_Table_String : DefOK fi_Table_String (stParams (inSt 26 4)) (stPart (inSt 26 4)) .none .none :=
  ⟨⟨.type "function", none, "String", .none, .str "flatbuffers.table" 604, none, .none, #[], fun P => by kernel_rfl⟩, fun P => by kernel_rfl, ⟨by kernel_rfl, by decide +kernel, by decide⟩, by kernel_rfl, by kernel_rfl, by kernel_rfl, fun _ => rfl⟩
noncomputable def x_Table_String : Ex := (xSeq (xExpr (eCall ([(eVar 1), (eSt (.ref 146))] ++ []) f_enforce_number)) (xSeq (xAug 1 mIAdd (eCall ([(eAttr (eSt (.ref 146)) (semCls "packer_type")), (eAttr (eVar 0) (semSlot .table 0)), (eVar 1)] ++ []) f_Get)) (xSeq (xAsg 2 (eBin mAdd (eVar 1) (eAttr (eSt (.ref 146)) (semCls "bytewidth")))) (xSeq (xAsg 3 (eCall ([(eAttr (eSt (.ref 146)) (semCls "packer_type")), (eAttr (eVar 0) (semSlot .table 0)), (eVar 1)] ++ []) f_Get)) (xSeq (xRet (eCall ([(eCut (eAttr (eVar 0) (semSlot .table 0)) (some (eVar 2)) (some (eBin mAdd (eVar 2) (eVar 3))))] ++ []) fBytes)) xNil)))))
theorem body_Table_String : ExsOK fi_Table_String 1 x_Table_String (stPart (inSt 26 4)) :=
  (ExsOK.cons (ExOK.expr (by rfl) (EvOK.call (EvOK.gbl g_enforce_number (by kernel_rfl)) (KeepsOK.ref fun P => by kernel_rfl) (ok_enforce_number.le (by decide)) (EvAll.cons (EvOK.var (by rfl)) (by rfl) (EvAll.cons (EvOK.gbl g_UOffsetTFlags (by kernel_rfl)) (by rfl) EvAll.nil)) EvKw.nil)) (ExsOK.cons (ExOK.aug (by rfl) opIAdd (EvOK.call (EvOK.gbl g_Get_encode (by kernel_rfl)) (KeepsOK.ref fun P => by kernel_rfl) (ok_Get.le (by decide)) (EvAll.cons (EvOK.attr (by rfl) (attrCls clsOK) (EvOK.gbl g_UOffsetTFlags (by kernel_rfl))) (by rfl) (EvAll.cons (EvOK.attr (by rfl) (attrSlot tBytes) (EvOK.var (by rfl))) (by rfl) (EvAll.cons (EvOK.var (by rfl)) (by rfl) EvAll.nil))) EvKw.nil)) (ExsOK.cons (ExOK.asg (by rfl) (by rfl) (EvOK.bin opAdd (EvOK.var (by rfl)) (EvOK.attr (by rfl) (attrCls clsOK) (EvOK.gbl g_UOffsetTFlags (by kernel_rfl))))) (ExsOK.cons (ExOK.asg (by rfl) (by rfl) (EvOK.call (EvOK.gbl g_Get_encode (by kernel_rfl)) (KeepsOK.ref fun P => by kernel_rfl) (ok_Get.le (by decide)) (EvAll.cons (EvOK.attr (by rfl) (attrCls clsOK) (EvOK.gbl g_UOffsetTFlags (by kernel_rfl))) (by rfl) (EvAll.cons (EvOK.attr (by rfl) (attrSlot tBytes) (EvOK.var (by rfl))) (by rfl) (EvAll.cons (EvOK.var (by rfl)) (by rfl) EvAll.nil))) EvKw.nil)) (ExsOK.cons (ExOK.ret (EvOK.call (EvOK.blt b_bytes (by kernel_rfl)) KeepsOK.type okBytes (EvAll.cons (EvOK.cut (EvOK.attr (by rfl) (attrSlot tBytes) (EvOK.var (by rfl))) (OptOK.so (EvOK.var (by rfl))) (OptOK.so (EvOK.bin opAdd (EvOK.var (by rfl)) (EvOK.var (by rfl))))) (by rfl) EvAll.nil) EvKw.nil)) ExsOK.nil)))))
noncomputable def f_Table_String : Fn := fDef [] (fFun fi_Table_String 2 x_Table_String)
theorem ct_Table_String : FnCT 2 217 [] f_Table_String := FnCT.def (da := []) (dv := []) def_Table_String body_Table_String (fun _ => trivial) (by decide) fun w s name doc pm an ct ps ks X h1 h2 => by
  obtain rfl := len0 h2
  have g : ps.length = 2 := h1
  obtain ⟨p0, p1, rfl⟩ := len2 g
  exact BindsTo.of_eq (by kernel_rfl)
theorem ok_Table_String : FnOK 2 (.ref 217) [] f_Table_String := ct_Table_String.ok
noncomputable def fi_Table_VectorLen : FI := { addr := 224, qual := "Table.VectorLen", scope := stScope (inSt 26 5), cd := .ref 223, names := ["self", "off", "ret"] }
theorem def_Table_VectorLen : DefOK fi_Table_VectorLen (stParams (inSt 26 5)) (stPart (inSt 26 5)) .none .none :=
  ⟨⟨.type "function", none, "VectorLen", .none, .str "flatbuffers.table" 604, none, .none, #[], fun P => by kernel_rfl⟩, fun P => by kernel_rfl, ⟨by kernel_rfl, by decide +kernel, by decide⟩, by kernel_rfl, by kernel_rfl, by kernel_rfl, fun _ => rfl⟩
noncomputable def x_Table_VectorLen : Ex := (xSeq (xExpr (eCall ([(eVar 1), (eSt (.ref 146))] ++ []) f_enforce_number)) (xSeq (xAug 1 mIAdd (eAttr (eVar 0) (semSlot .table 1))) (xSeq (xAug 1 mIAdd (eCall ([(eAttr (eSt (.ref 146)) (semCls "packer_type")), (eAttr (eVar 0) (semSlot .table 0)), (eVar 1)] ++ []) f_Get)) (xSeq (xAsg 2 (eCall ([(eAttr (eSt (.ref 146)) (semCls "packer_type")), (eAttr (eVar 0) (semSlot .table 0)), (eVar 1)] ++ []) f_Get)) (xSeq (xRet (eVar 2)) xNil)))))
theorem body_Table_VectorLen : ExsOK fi_Table_VectorLen 1 x_Table_VectorLen (stPart (inSt 26 5)) :=
  (ExsOK.cons (ExOK.expr (by rfl) (EvOK.call (EvOK.gbl g_enforce_number (by kernel_rfl)) (KeepsOK.ref fun P => by kernel_rfl) (ok_enforce_number.le (by decide)) (EvAll.cons (EvOK.var (by rfl)) (by rfl) (EvAll.cons (EvOK.gbl g_UOffsetTFlags (by kernel_rfl)) (by rfl) EvAll.nil)) EvKw.nil)) (ExsOK.cons (ExOK.aug (by rfl) opIAdd (EvOK.attr (by rfl) (attrSlot tPos) (EvOK.var (by rfl)))) (ExsOK.cons (ExOK.aug (by rfl) opIAdd (EvOK.call (EvOK.gbl g_Get_encode (by kernel_rfl)) (KeepsOK.ref fun P => by kernel_rfl) (ok_Get.le (by decide)) (EvAll.cons (EvOK.attr (by rfl) (attrCls clsOK) (EvOK.gbl g_UOffsetTFlags (by kernel_rfl))) (by rfl) (EvAll.cons (EvOK.attr (by rfl) (attrSlot tBytes) (EvOK.var (by rfl))) (by rfl) (EvAll.cons (EvOK.var (by rfl)) (by rfl) EvAll.nil))) EvKw.nil)) (ExsOK.cons (ExOK.asg (by rfl) (by rfl) (EvOK.call (EvOK.gbl g_Get_encode (by kernel_rfl)) (KeepsOK.ref fun P => by kernel_rfl) (ok_Get.le (by decide)) (EvAll.cons (EvOK.attr (by rfl) (attrCls clsOK) (EvOK.gbl g_UOffsetTFlags (by kernel_rfl))) (by rfl) (EvAll.cons (EvOK.attr (by rfl) (attrSlot tBytes) (EvOK.var (by rfl))) (by rfl) (EvAll.cons (EvOK.var (by rfl)) (by rfl) EvAll.nil))) EvKw.nil)) (ExsOK.cons (ExOK.ret (EvOK.var (by rfl))) ExsOK.nil)))))
noncomputable def f_Table_VectorLen : Fn := fDef [] (fFun fi_Table_VectorLen 2 x_Table_VectorLen)
theorem ct_Table_VectorLen : FnCT 2 224 [] f_Table_VectorLen := FnCT.def (da := []) (dv := []) def_Table_VectorLen body_Table_VectorLen (fun _ => trivial) (by decide) fun w s name doc pm an ct ps ks X h1 h2 => by
  obtain rfl := len0 h2
  have g : ps.length = 2 := h1
  obtain ⟨p0, p1, rfl⟩ := len2 g
  exact BindsTo.of_eq (by kernel_rfl)
theorem ok_Table_VectorLen : FnOK 2 (.ref 224) [] f_Table_VectorLen := ct_Table_VectorLen.ok
noncomputable def fi_Table_Vector : FI := { addr := 231, qual := "Table.Vector", scope := stScope (inSt 26 6), cd := .ref 230, names := ["self", "off", "x"] }
theorem def_Table_Vector : DefOK fi_Table_Vector (stParams (inSt 26 6)) (stPart (inSt 26 6)) .none .none :=
  ⟨⟨.type "function", none, "Vector", .none, .str "flatbuffers.table" 604, none, .none, #[], fun P => by kernel_rfl⟩, fun P => by kernel_rfl, ⟨by kernel_rfl, by decide +kernel, by decide⟩, by kernel_rfl, by kernel_rfl, by kernel_rfl, fun _ => rfl⟩
noncomputable def x_Table_Vector : Ex := (xSeq (xExpr (eCall ([(eVar 1), (eSt (.ref 146))] ++ []) f_enforce_number)) (xSeq (xAug 1 mIAdd (eAttr (eVar 0) (semSlot .table 1))) (xSeq (xAsg 2 (eBin mAdd (eVar 1) (eMeth (eVar 0) (selI .table) ([(eSt (.ref 146)), (eVar 1)] ++ []) f_Table_Get))) (xSeq (xAug 2 mIAdd (eAttr (eSt (.ref 146)) (semCls "bytewidth"))) (xSeq (xRet (eVar 2)) xNil)))))
theorem body_Table_Vector : ExsOK fi_Table_Vector 2 x_Table_Vector (stPart (inSt 26 6)) :=
  (ExsOK.cons (ExOK.expr (by rfl) (EvOK.call (EvOK.gbl g_enforce_number (by kernel_rfl)) (KeepsOK.ref fun P => by kernel_rfl) (ok_enforce_number.le (by decide)) (EvAll.cons (EvOK.var (by rfl)) (by rfl) (EvAll.cons (EvOK.gbl g_UOffsetTFlags (by kernel_rfl)) (by rfl) EvAll.nil)) EvKw.nil)) (ExsOK.cons (ExOK.aug (by rfl) opIAdd (EvOK.attr (by rfl) (attrSlot tPos) (EvOK.var (by rfl)))) (ExsOK.cons (ExOK.asg (by rfl) (by rfl) (EvOK.bin opAdd (EvOK.var (by rfl)) (EvOK.meth (EvOK.var (by rfl)) (by rfl) (methI m_table_Get) (selI_true _) m_table_Get.keeps (ok_Table_Get.le (by decide)) (EvAll.cons (EvOK.gbl g_UOffsetTFlags (by kernel_rfl)) (by rfl) (EvAll.cons (EvOK.var (by rfl)) (by rfl) EvAll.nil)) EvKw.nil (by rfl) (by decide)))) (ExsOK.cons (ExOK.aug (by rfl) opIAdd (EvOK.attr (by rfl) (attrCls clsOK) (EvOK.gbl g_UOffsetTFlags (by kernel_rfl)))) (ExsOK.cons (ExOK.ret (EvOK.var (by rfl))) ExsOK.nil)))))
noncomputable def f_Table_Vector : Fn := fDef [] (fFun fi_Table_Vector 2 x_Table_Vector)
theorem ct_Table_Vector : FnCT 3 231 [] f_Table_Vector := FnCT.def (da := []) (dv := []) def_Table_Vector body_Table_Vector (fun _ => trivial) (by decide) fun w s name doc pm an ct ps ks X h1 h2 => by
  obtain rfl := len0 h2
  have g : ps.length = 2 := h1
  obtain ⟨p0, p1, rfl⟩ := len2 g
  exact BindsTo.of_eq (by kernel_rfl)
theorem ok_Table_Vector : FnOK 3 (.ref 231) [] f_Table_Vector := ct_Table_Vector.ok
noncomputable def fi_Table_GetSlot : FI := { addr := 252, qual := "Table.GetSlot", scope := stScope (inSt 26 9), cd := .ref 251, names := ["self", "slot", "d", "validator_flags", "off"] }
theorem def_Table_GetSlot : DefOK fi_Table_GetSlot (stParams (inSt 26 9)) (stPart (inSt 26 9)) .none .none :=
  ⟨⟨.type "function", none, "GetSlot", .none, .str "flatbuffers.table" 604, none, .none, #[], fun P => by kernel_rfl⟩, fun P => by kernel_rfl, ⟨by kernel_rfl, by decide +kernel, by decide⟩, by kernel_rfl, by kernel_rfl, by kernel_rfl, fun _ => rfl⟩
noncomputable def x_Table_GetSlot : Ex := (xSeq (xExpr (eCall ([(eVar 1), (eSt (.ref 158))] ++ []) f_enforce_number)) (xSeq (xIf (bCmp mIsNot (eVar 3) (eConst .none)) (xSeq (xExpr (eCall ([(eVar 2), (eVar 3)] ++ []) f_enforce_number)) xNil) xNil) (xSeq (xAsg 4 (eMeth (eVar 0) (selI .table) ([(eVar 1)] ++ []) f_Table_Offset)) (xSeq (xIf (bCmp mEq (eVar 4) (eConst (.int 0))) (xSeq (xRet (eVar 2)) xNil) xNil) (xSeq (xRet (eMeth (eVar 0) (selI .table) ([(eVar 3), (eBin mAdd (eAttr (eVar 0) (semSlot .table 1)) (eVar 4))] ++ []) f_Table_Get)) xNil)))))
theorem body_Table_GetSlot : ExsOK fi_Table_GetSlot 3 x_Table_GetSlot (stPart (inSt 26 9)) :=
  (ExsOK.cons (ExOK.expr (by rfl) (EvOK.call (EvOK.gbl g_enforce_number (by kernel_rfl)) (KeepsOK.ref fun P => by kernel_rfl) (ok_enforce_number.le (by decide)) (EvAll.cons (EvOK.var (by rfl)) (by rfl) (EvAll.cons (EvOK.gbl g_VOffsetTFlags (by kernel_rfl)) (by rfl) EvAll.nil)) EvKw.nil)) (ExsOK.cons (ExOK.ite (BoOK.cmp opIsNot (EvOK.var (by rfl)) EvOK.none (by rfl)) (ExsOK.cons (ExOK.expr (by rfl) (EvOK.call (EvOK.gbl g_enforce_number (by kernel_rfl)) (KeepsOK.ref fun P => by kernel_rfl) (ok_enforce_number.le (by decide)) (EvAll.cons (EvOK.var (by rfl)) (by rfl) (EvAll.cons (EvOK.var (by rfl)) (by rfl) EvAll.nil)) EvKw.nil)) ExsOK.nil) ExsOK.nil) (ExsOK.cons (ExOK.asg (by rfl) (by rfl) (EvOK.meth (EvOK.var (by rfl)) (by rfl) (methI m_table_Offset) (selI_true _) m_table_Offset.keeps (ok_Table_Offset.le (by decide)) (EvAll.cons (EvOK.var (by rfl)) (by rfl) EvAll.nil) EvKw.nil (by rfl) (by decide))) (ExsOK.cons (ExOK.ite (BoOK.cmp opEq (EvOK.var (by rfl)) EvOK.int (by rfl)) (ExsOK.cons (ExOK.ret (EvOK.var (by rfl))) ExsOK.nil) ExsOK.nil) (ExsOK.cons (ExOK.ret (EvOK.meth (EvOK.var (by rfl)) (by rfl) (methI m_table_Get) (selI_true _) m_table_Get.keeps (ok_Table_Get.le (by decide)) (EvAll.cons (EvOK.var (by rfl)) (by rfl) (EvAll.cons (EvOK.bin opAdd (EvOK.attr (by rfl) (attrSlot tPos) (EvOK.var (by rfl))) (EvOK.var (by rfl))) (by rfl) EvAll.nil)) EvKw.nil (by rfl) (by decide))) ExsOK.nil)))))
noncomputable def f_Table_GetSlot : Fn := fDef [] (fFun fi_Table_GetSlot 4 x_Table_GetSlot)
theorem ct_Table_GetSlot : FnCT 4 252 [] f_Table_GetSlot := FnCT.def (da := []) (dv := []) def_Table_GetSlot body_Table_GetSlot (fun _ => trivial) (by decide) fun w s name doc pm an ct ps ks X h1 h2 => by
  obtain rfl := len0 h2
  have g : ps.length = 4 := h1
  obtain ⟨p0, p1, p2, p3, rfl⟩ := len4 g
  exact BindsTo.of_eq (by kernel_rfl)
theorem ok_Table_GetSlot : FnOK 4 (.ref 252) [] f_Table_GetSlot := ct_Table_GetSlot.ok
noncomputable def fi_GetSizePrefix : FI := { addr := 769, qual := "GetSizePrefix", scope := stScope (topSt 39), cd := .ref 768, names := ["buf", "offset"] }
theorem def_GetSizePrefix : DefOK fi_GetSizePrefix (stParams (topSt 39)) (stPart (topSt 39)) .none .none :=
  ⟨⟨.type "function", none, "GetSizePrefix", .none, .str "flatbuffers.util" 1388, none, .none, #[], fun P => by kernel_rfl⟩, fun P => by kernel_rfl, ⟨by kernel_rfl, by decide +kernel, by decide⟩, by kernel_rfl, by kernel_rfl, by kernel_rfl, fun _ => rfl⟩
noncomputable def x_GetSizePrefix : Ex := (xSeq (xRet (eCall ([(eSt (.ref 54)), (eVar 0), (eVar 1)] ++ []) f_Get)) xNil)
theorem body_GetSizePrefix : ExsOK fi_GetSizePrefix 1 x_GetSizePrefix (stPart (topSt 39)) :=
  (ExsOK.cons (ExOK.ret (EvOK.call (EvOK.gbl g_Get_encode (by kernel_rfl)) (KeepsOK.ref fun P => by kernel_rfl) (ok_Get.le (by decide)) (EvAll.cons (EvOK.gbl g_int32 (by kernel_rfl)) (by rfl) (EvAll.cons (EvOK.var (by rfl)) (by rfl) (EvAll.cons (EvOK.var (by rfl)) (by rfl) EvAll.nil))) EvKw.nil)) ExsOK.nil)
noncomputable def f_GetSizePrefix : Fn := fDef [] (fFun fi_GetSizePrefix 2 x_GetSizePrefix)
theorem ct_GetSizePrefix : FnCT 2 769 [] f_GetSizePrefix := FnCT.def (da := []) (dv := []) def_GetSizePrefix body_GetSizePrefix (fun _ => trivial) (by decide) fun w s name doc pm an ct ps ks X h1 h2 => by
  obtain rfl := len0 h2
  have g : ps.length = 2 := h1
  obtain ⟨p0, p1, rfl⟩ := len2 g
  exact BindsTo.of_eq (by kernel_rfl)
theorem ok_GetSizePrefix : FnOK 2 (.ref 769) [] f_GetSizePrefix := ct_GetSizePrefix.ok
noncomputable def fi_GetBufferIdentifier : FI := { addr := 777, qual := "GetBufferIdentifier", scope := stScope (topSt 40), cd := .ref 776, names := ["buf", "offset", "size_prefixed", "end"] }
theorem def_GetBufferIdentifier : DefOK fi_GetBufferIdentifier (stParams (topSt 40)) (stPart (topSt 40)) (.ref 770) .none :=
  ⟨⟨.type "function", none, "GetBufferIdentifier", .none, .str "flatbuffers.util" 1388, none, .none, #[], fun P => by kernel_rfl⟩, fun P => by kernel_rfl, ⟨by kernel_rfl, by decide +kernel, by decide⟩, by kernel_rfl, by kernel_rfl, by kernel_rfl, fun _ => rfl⟩
noncomputable def x_GetBufferIdentifier : Ex := (xSeq (xIf (bVal (eVar 2)) (xSeq (xAug 1 mIAdd (eAttr (eSt (.ref 146)) (semCls "bytewidth"))) xNil) xNil) (xSeq (xAug 1 mIAdd (eAttr (eSt (.ref 146)) (semCls "bytewidth"))) (xSeq (xAsg 3 (eBin mAdd (eVar 1) (eConst (.int 4)))) (xSeq (xRet (eCut (eVar 0) (some (eVar 1)) (some (eVar 3)))) xNil))))
theorem body_GetBufferIdentifier : ExsOK fi_GetBufferIdentifier 0 x_GetBufferIdentifier (stPart (topSt 40)) :=
  (ExsOK.cons (ExOK.ite (BoOK.val (by rfl) (EvOK.var (by rfl))) (ExsOK.cons (ExOK.aug (by rfl) opIAdd (EvOK.attr (by rfl) (attrCls clsOK) (EvOK.gbl g_UOffsetTFlags (by kernel_rfl)))) ExsOK.nil) ExsOK.nil) (ExsOK.cons (ExOK.aug (by rfl) opIAdd (EvOK.attr (by rfl) (attrCls clsOK) (EvOK.gbl g_UOffsetTFlags (by kernel_rfl)))) (ExsOK.cons (ExOK.asg (by rfl) (by rfl) (EvOK.bin opAdd (EvOK.var (by rfl)) (EvOK.gblI g_FILE_IDENTIFIER_LENGTH (by kernel_rfl)))) (ExsOK.cons (ExOK.ret (EvOK.cut (EvOK.var (by rfl)) (OptOK.so (EvOK.var (by rfl))) (OptOK.so (EvOK.var (by rfl))))) ExsOK.nil))))
noncomputable def f_GetBufferIdentifier : Fn := fDef [] (fFun fi_GetBufferIdentifier 3 x_GetBufferIdentifier)
theorem dflt_GetBufferIdentifier (P : Params) : (hK P).lookup 770 = some ⟨.type "tuple", none, .seq #[.bool false] 0, #[]⟩ := by kernel_rfl
theorem ct_GetBufferIdentifier : FnCT 1 777 ["size_prefixed"] f_GetBufferIdentifier := FnCT.def (da := []) (dv := []) def_GetBufferIdentifier body_GetBufferIdentifier (fun _ => trivial) (by decide) fun w s name doc pm an ct ps ks X h1 h2 => by
  obtain ⟨k0, rfl⟩ := len1 h2
  have g : ps.length = 2 := Nat.succ.inj (h1)
  obtain ⟨p0, p1, rfl⟩ := len2 g
  exact BindsTo.of_defaults rfl (X _ _ (dflt_GetBufferIdentifier _)) rfl rfl rfl
theorem ok_GetBufferIdentifier : FnOK 1 (.ref 777) ["size_prefixed"] f_GetBufferIdentifier := ct_GetBufferIdentifier.ok
noncomputable def fi_BufferHasIdentifier : FI := { addr := 785, qual := "BufferHasIdentifier", scope := stScope (topSt 41), cd := .ref 784, names := ["buf", "offset", "file_identifier", "size_prefixed", "got"] }
theorem def_BufferHasIdentifier : DefOK fi_BufferHasIdentifier (stParams (topSt 41)) (stPart (topSt 41)) (.ref 778) .none :=
  ⟨⟨.type "function", none, "BufferHasIdentifier", .none, .str "flatbuffers.util" 1388, none, .none, #[], fun P => by kernel_rfl⟩, fun P => by kernel_rfl, ⟨by kernel_rfl, by decide +kernel, by decide⟩, by kernel_rfl, by kernel_rfl, by kernel_rfl, fun _ => rfl⟩
noncomputable def x_BufferHasIdentifier : Ex := (xSeq (xAsg 4 (eCall ([(eVar 0), (eVar 1)] ++ [(eVar 3)]) f_GetBufferIdentifier)) (xSeq (xRet (eCmp mEq (eVar 4) (eVar 2))) xNil))
theorem body_BufferHasIdentifier : ExsOK fi_BufferHasIdentifier 1 x_BufferHasIdentifier (stPart (topSt 41)) :=
  (ExsOK.cons (ExOK.asg (by rfl) (by rfl) (EvOK.call (EvOK.gbl g_GetBufferIdentifier (by kernel_rfl)) (KeepsOK.ref fun P => by kernel_rfl) (ok_GetBufferIdentifier.le (by decide)) (EvAll.cons (EvOK.var (by rfl)) (by rfl) (EvAll.cons (EvOK.var (by rfl)) (by rfl) EvAll.nil)) (EvKw.cons (EvOK.var (by rfl)) EvKw.nil))) (ExsOK.cons (ExOK.ret (EvOK.cmp opEq (EvOK.var (by rfl)) (EvOK.var (by rfl)) (by rfl))) ExsOK.nil))
noncomputable def f_BufferHasIdentifier : Fn := fDef [] (fFun fi_BufferHasIdentifier 4 x_BufferHasIdentifier)
theorem dflt_BufferHasIdentifier (P : Params) : (hK P).lookup 778 = some ⟨.type "tuple", none, .seq #[.bool false] 0, #[]⟩ := by kernel_rfl
theorem ct_BufferHasIdentifier : FnCT 2 785 ["size_prefixed"] f_BufferHasIdentifier := FnCT.def (da := []) (dv := []) def_BufferHasIdentifier body_BufferHasIdentifier (fun _ => trivial) (by decide) fun w s name doc pm an ct ps ks X h1 h2 => by
  obtain ⟨k0, rfl⟩ := len1 h2
  have g : ps.length = 3 := Nat.succ.inj (h1)
  obtain ⟨p0, p1, p2, rfl⟩ := len3 g
  exact BindsTo.of_defaults rfl (X _ _ (dflt_BufferHasIdentifier _)) rfl rfl rfl
theorem ok_BufferHasIdentifier : FnOK 2 (.ref 785) ["size_prefixed"] f_BufferHasIdentifier := ct_BufferHasIdentifier.ok
end Mine
set_option maxRecDepth 100000
namespace Mine
theorem findObj_fnS {K : Frag} {C f : Addr} {g : Value} {name : Str} (hh : isClsIn K C = true) (ha : findIn K (.ref C) name = some (some (.ref f))) (hg : specialIn K (.ref f) "__get__" = some (some g)) (ht : takesIn K (.ref f) = some false) (hc : copiedNames.contains name = false) :
    findObj K C (some (dictOf [] 0)) name = some (.bind g (.ref f)) := by
  obtain ⟨cd, hc'⟩ := Option.isSome_iff_exists.mp hh
  unfold findObj
  have ho : PySem.W.ownOf cd (some (dictOf [] 0)) name = some none := by
    unfold PySem.W.ownOf
    split
    · show lookIn name (dictOf [] 0) = _
      rw [lookIn_dict]; rfl
    · rfl
  rw [hc', Option.bind_some, ha, Option.bind_some]
  simp only [hg, ht, Option.bind_some, ho, hc, Bool.false_and, Bool.false_eq_true, if_false]
theorem slotBound : ∀ P, (isClsIn (hK P) 749 && plainGet (hK P) 749 "PrependSlot" && findIn (hK P) (.ref 749) "PrependSlot" == some (some (.ref 549)) && specialIn (hK P) (.ref 549) "__get__" == some (some (.builtin "function.__get__")) && takesIn (hK P) (.ref 549) == some false && isFn (hK P) (.ref 549) && fnIn (hK P) 549) = true := fun P => by kernel_rfl
theorem T.callWithS {prog : Program} {w : World} {A : Around} {os : OsState} {h : Heap} {f : Value} {first : List Value} {p : Pos} {args : List (Bool × Sem Value)} {Q : Value → Heap → Prop} (hst : args.any (·.1) = true)
    (k : T (model prog w) os A (PySem.evalArgs f true args []) h fun a h₁ => Keeps (model prog w) f h₁ ∧ T (model prog w) os A (PySem.call f (first ++ a.pos) a.kw) h₁ Q) : T (model prog w) os A (PySem.callWith p f first args []) h Q := by
  unfold PySem.callWith
  refine T.bind (T.holding (T.mono k fun a h₁ k1 => ?_))
  obtain ⟨⟨kp, hk', L⟩, k2⟩ := k1
  refine T.bind (T.standAt ?_)
  simp only [hst, Bool.true_or]
  refine T.bind (T.looks L ?_)
  have tail : ∀ {t : Sem Value}, T (model prog w) os A t h₁ Q → T (model prog w) os A (t >>= fun r => PySem.holding [r] PySem.point >>= fun _ => Pure.pure r) h₁ Q :=
    fun ht => T.bind (T.mono ht fun r s₂ hr => T.bind (T.holding (T.point (T.pure hr))))
  have marked (mk : Value) : T (model prog w) os A (callMarked mk f (first ++ a.pos) a.kw) h₁ Q := by unfold callMarked; exact T.keep k2
  rcases hk' with rfl | rfl | rfl <;> dsimp only <;> first | exact tail (marked _) | exact tail (T.operate k2)
theorem T.starOf {prog : Program} {w : World} {A : Around} {os : OsState} {h : Heap} {a : Addr} {o : Obj} {vs : List Value} {n : Nat} {t : Sem Value} {Q : List Value → Heap → Prop} (ho : h.get? a = some o) (hc : o.cls = .type "tuple") (hd : o.data = .seq vs.toArray n) (hz : vs.length ≤ 1000)
    (ht : T (model prog w) os A t h fun v h' => v = .ref a ∧ h' = h) (q : ∀ h', (∀ b o, h.get? b = some o → h'.get? b = some o) → Q vs h') : T (model prog w) os A (PySem.spliced [(true, t)]) h Q := by
  rw [PySem.spliced]
  refine T.bind (T.mono ht fun v h' z => ?_)
  obtain ⟨rfl, rfl⟩ := z
  have it : T (model prog w) os A (notIterableAtAll (.ref a)) h' fun b h2 => b = false ∧ h2 = h' := by
    unfold notIterableAtAll
    refine T.bind (T.specialOf ho hc F.slot_tuple_iter.lookup ?_)
    exact T.ite_true rfl (T.pure ⟨rfl, rfl⟩)
  simp only [if_true]
  refine T.bind (T.mono it fun b h2 z => ?_)
  obtain ⟨rfl, rfl⟩ := z
  refine T.ite_false (by decide) ?_
  refine T.bind (T.any fun s e g o' => ?_)
  subst e
  refine wpAny_collect_seq a (.inr rfl) ho hc hd (fun h' k => ⟨g, o', ?_⟩) (by rw [sizeLine_eq]; simp; lia)
  refine T.bind (T.holding (T.pure (T.pure ?_)))
  simpa using q h' k
section
variable {fi : FI} {d : Nat}
/-- self.PrependSlot(flags, *args) -/
theorem T.starCall {prog : Program} {w : World} {os : OsState} {h₀ : Heap} {A : Around} {ρ : List Addr} {σ : AH} {h : Heap} {L : Addr} {m : Str → Option Value} {vars : Vars} {c : AV} {σ' : AH} {j : Nat} {o x dd flags : AV} {fe : Expr} {f : Ev} {p p0 p' q q' : Pos} {F : Fn}
    (hs : fi.names[0]? = some ("self" : Str)) (ha : fi.names[1]? = some ("args" : Str)) (hfe : EvOK fi d f fe) (hpl : plainArg fe = true) (hff : ∀ vars σ, f vars σ = some (flags, σ)) (hF : FnCT d 549 [] F) (B : Base w h₀) (C : Cond d A) (ok : fi.Ok) (S : FS fi h₀ ρ σ h L m vars) {s : AV} (e0 : (vars[0]?).join = some s) (e1 : (vars[1]?).join = some (.obj j)) (e2 : σ[j]? = some (.tup [o, x, dd])) (e3 : selI .builder s σ = some true)
    (e : F [s, flags, o, x, dd] σ = some (c, σ')) :
    T (model prog w) os A (eval (.Call (.Attribute (.Name "self" p0) "PrependSlot" p') [fe, .Starred (.Name "args" q) q'] [] p) (fi.env L)) h (VP h₀ ρ h c σ') := by
  rw [arm_eval_Call, attributeBase_plain rfl]
  refine T.bind (T.mono (EvOK.var (i := 0) (p := p0) hs B C ok S (a := s) (σ' := σ) (by unfold eVar; rw [e0]; rfl)) fun vs h1 k => ?_)
  obtain ⟨ρ1, x1, R1, r1⟩ := k
  refine T.bind (T.standAt ?_)
  unfold selI at e3
  obtain ⟨⟨kk, dk, sl⟩, e4, _⟩ := Option.map_eq_some_iff.mp e3
  obtain ⟨xa, oi, rfl, hx, I, ro⟩ := instAt_of R1 r1 e4
  have st := slotBound w.params
  simp only [Bool.and_eq_true, beq_iff_eq] at st
  obtain ⟨⟨⟨⟨⟨⟨k1, k2⟩, k3⟩, k4⟩, k5⟩, k6⟩, k7⟩ := st
  have X1 := B.X.keeps R1.keep
  have se : starEach [fe, .Starred (.Name "args" q) q'] (fi.env L) = [(false, eval fe (fi.env L)), (true, eval (.Name "args" q) (fi.env L))] := by
    rw [starEach_plain hpl]; rfl
  unfold methodCall calleeOf
  have few : methodCallForm ([fe, Expr.Starred (.Name "args" q) q'].length + ([] : List Keyword).length) (backTo p (starEach [fe, .Starred (.Name "args" q) q'] (fi.env L))) (backToKw p (keywordEach [] (fi.env L))) = false := by
    rw [se]; rfl
  rw [few]
  have gb : T (model prog w) os A (getAttr (.ref xa) "PrependSlot" true) h1 fun v h2 => v = .ref h1.objs.size ∧ h2 = h1.push (methodObj (.ref 549) (.ref xa)) := by
    refine T.any fun s' es g o' => ?_
    subst es
    exact get_bind X1 I (plainGet_of k2).1 (findObj_fnS k1 k3 k4 k5 (by decide)) (plainGet_of k2).2 (wpAny_call (fn_get (s := { s' with toks := s'.toks + 1 }) X1 (beq_iff_eq.mp k6) (handed_on rfl ⟨g, o', rfl, rfl⟩)))
  refine T.bind (T.holding ?_)
  refine T.ite_false (by decide) ?_
  refine T.bind (T.mono gb fun v h2 z => ?_)
  obtain ⟨rfl, rfl⟩ := z
  refine T.pure ?_
  refine methodCallPos_T rfl ?_
  have S1 := S.step x1 R1
  have xm := x1.trans (Ext.garbage (methodObj (.ref 549) (.ref xa)))
  have S2 := S1.step (Ext.garbage (methodObj (.ref 549) (.ref xa))) (R1.garbage _)
  refine T.callWithS (by rw [se]; rfl) ?_
  rw [se]
  have hm : (h1.push (methodObj (.ref 549) (.ref xa))).get? h1.objs.size = some (methodObj (.ref 549) (.ref xa)) := get_push_self _ _ rfl
  unfold PySem.evalArgs
  show T _ _ _ (PySem.spliced [(false, eval fe (fi.env L)), (true, (do let v ← eval (.Name "args" q) (fi.env L); PySem.standAt p; Pure.pure v))] >>= _) _ _
  refine T.bind ?_
  rw [PySem.spliced]
  simp only [Bool.false_eq_true, if_false]
  refine T.bind (T.mono (hfe B C ok S2 (hff _ _)) fun fv h3 z => ?_)
  obtain ⟨ρ3, x3, R3, r3⟩ := z
  have S3 := S2.step x3 R3
  refine T.bind (T.pure (T.bind (T.holding ?_)))
  have va := S3.vars 1 "args" ha
  rw [e1] at va
  obtain ⟨av, hav, y, hy, rfl⟩ := va
  obtain ⟨ot, hot, hct, nt, us, hdt, ru⟩ := R3.get e2 hy
  match us, ru, hdt with
  | [u1, u2, u3], ru, hdt =>
    refine T.starOf hot hct hdt (by simp) (T.bind (T.mono (T.any fun s' es g o' => ?_) fun v h4 (z : v = .ref y ∧ h4 = h3) => by obtain ⟨rfl, rfl⟩ := z; exact T.bind (T.standAt (T.pure ⟨rfl, rfl⟩)))) fun h4 k4' => ?_
    · subst es
      obtain ⟨l1, l2⟩ := ok.loc "args" (List.mem_of_getElem? ha)
      exact nameX_L S3.fr hav ⟨g, o', rfl, rfl⟩ ok.kind l1 l2
    · have x4 : Ext ρ3 h3 ρ3 h4 := Ext.grown k4'
      have R4 := R3.grown k4'
      refine T.pure (T.holding ?_)
      refine T.bind (T.pure ?_)
      refine T.bind (T.pure (T.pure ?_))
      have q3 : ρ3 = ρ3 := rfl
      have hm3 : h3.get? h1.objs.size = some (methodObj (.ref 549) (.ref xa)) := x3.keep _ _ hm R1.notin
      have hm4 := k4' _ _ hm3
      have X4 := B.X.keeps R4.keep
      obtain ⟨kq, a1, a2⟩ := keeps_M (M := model prog w) k7 _ ⟨hm4, X4⟩
      refine ⟨⟨kq, a1, a2⟩, ?_⟩
      refine T.call (CT.tree rfl ?_)
      show T _ _ A.in1 (PySem.load h1.objs.size >>= _) _ _
      refine T.bind (T.load hm4 ?_)
      refine T.pure (a := PySem.Fin.again (.call (.ref 549) ⟨[.ref xa, fv, u1, u2, u3], []⟩)) ⟨rfl, ?_⟩
      have xx := (xm.trans x3).trans x4
      exact CT.mono (hF (ps := [.ref xa, fv, u1, u2, u3]) (ks := []) (args := [s, flags, o, x, dd]) B C R4 R4.base (by
        rw [List.append_nil]
        exact ⟨r1.ext ((Ext.garbage (ρ := ρ1) (methodObj (.ref 549) (.ref xa))).trans (x3.trans x4)), r3.ext x4, ru.1.ext x4, ru.2.1.ext x4, ru.2.2.1.ext x4, trivial⟩) rfl e) fun fl h' z => by
          obtain ⟨v, rfl, z⟩ := z
          exact ⟨v, rfl, VP.trans xx z⟩
noncomputable def eStar (flags : AV) (F : Fn) : Ev := fun vars σ => match ((vars[0]?).join : Option AV), ((vars[1]?).join : Option AV) with
  | some s, some (AV.obj j) => match σ[j]? with
    | some (.tup [o, x, dd]) => (selI .builder s σ).bind fun _ => F [s, flags, o, x, dd] σ
    | _ => none
  | _, _ => none
theorem EvOK.star {flags : AV} {F : Fn} {f : Ev} {fe : Expr} {p p0 p' q q' : Pos} (hs : fi.names[0]? = some ("self" : Str)) (ha : fi.names[1]? = some ("args" : Str)) (hfe : EvOK fi d f fe) (hpl : plainArg fe = true) (hff : ∀ vars σ, f vars σ = some (flags, σ)) (hF : FnCT d 549 [] F) :
    EvOK fi d (eStar flags F) (.Call (.Attribute (.Name "self" p0) "PrependSlot" p') [fe, .Starred (.Name "args" q) q'] [] p) := by
  intro prog w os h₀ A ρ σ h L m vars a σ' B C ok S e
  unfold eStar at e
  split at e
  · rename_i s j e0 e1
    split at e
    · rename_i o x dd e2
      obtain ⟨b, e3, e⟩ := Option.bind_eq_some_iff.mp e
      have hb := selI_true _ _ _ _ e3
      subst hb
      exact T.starCall hs ha hfe hpl hff hF B C ok S e0 e1 e2 e3 e
    · cases e
  · cases e
end
end Mine
set_option maxRecDepth 100000
namespace Mine
noncomputable def fStar (fi : FI) (x : Ex) : Fn := fun args σ => match args with
  | [s, a, b, c] => (x [some s, some (.obj σ.length)] (σ ++ [.tup [a, b, c]])).bind fun p => match p.1 with
    | .ret a => some (a, p.2.2)
    | .next => some (.none, p.2.2)
    | _ => none
  | _ => none
theorem FnOK.star {fi : FI} {d : Nat} {params : Arguments} {body : List Stmt} {f : Ex} (D : DefOK fi params body .none .none) (hf : ExsOK fi d f body) (hn : fi.names = [("self" : Str), ("args" : Str)])
    (hb : ∀ (name : Str) (doc pm : Value) (an : Option Addr) (ct : Value) (a b c e : Value), bindArgs (fnOf name fi.qual params body fi.scope .none .none doc pm an fi.cd ct) ⟨[a, b, c, e], []⟩ = (newTuple [b, c, e] >>= fun t => pure [(("self" : Str), a), (("args" : Str), t)])) :
    FnOK (d + 1) (.ref fi.addr) [] (fStar fi f) := FnOK.of fun {prog w os h₀ A ρ σ h args vs cv σ'} B C R r e => by
  unfold fStar at e
  split at e
  · rename_i s a b c
    obtain ⟨⟨fl, v', σ₁⟩, e1, e⟩ := Option.bind_eq_some_iff.mp e
    obtain ⟨v1, v2, v3, v4, rfl, r1, r2, r3, r4⟩ := vrels4 r
    obtain ⟨oc, od, name, doc, pm, an, ct, osl, hat⟩ := D.at_
    have X := B.X.keeps R.keep
    have hlim : h.NoLimit := B.lim.keeps R.keep
    have kp : ∀ b o, h.get? b = some o → (h.push ({ cls := .type "tuple", data := .seq [v2, v3, v4].toArray } : Obj)).get? b = some o := fun b o e => Heap.get?_push_of_some _ e
    have hcell : ∀ x ∈ fi.scope.names, x.2 ≠ .cell := fun x hx q => by
      have := D.cell
      rw [List.any_eq_false] at this
      exact this x hx (by rw [q]; rfl)
    have hself := D.ok.loc "self" (by rw [hn]; exact .head _)
    have hargs := D.ok.loc "args" (by rw [hn]; exact .tail _ (.head _))
    have CD : ∀ env, Cond d (A.deeper env) := fun env => ⟨by have := C.depth; show A.depth + 1 + 4 * d ≤ 900; lia, by have := C.units; show A.units + 3 + 20 * d ≤ 9000; lia, C.handled, C.guards⟩
    refine T.call (CT.callFn (o := ⟨oc, od, .func (fnOf name fi.qual params body fi.scope .none .none doc pm an fi.cd ct), osl⟩) (h1 := h.push ({ cls := .type "tuple", data := .seq [v2, v3, v4].toArray } : Obj)) (binds := [(("self" : Str), v1), (("args" : Str), .ref h.objs.size)]) (by have := C.depth; show A.depth < 1000; lia) hlim (X _ _ (hat _)) rfl D.co D.gen D.ok.kind rfl (codeRec_of X (D.code _)) ?_ (hlim.keeps kp) hcell ?_ ?_)
    · rw [hb]
      refine T.bind ?_
      unfold newTuple
      exact T.newSeq (by rw [sizeLine_eq]; simp) (T.pure ⟨rfl, rfl⟩)
    · intro x hx
      rcases List.mem_cons.mp hx with rfl | hx
      · exact hself.1
      · rcases List.mem_cons.mp hx with rfl | hx
        · exact hargs.1
        · cases hx
    · intro h₁ hns keep hsz
      have Rt := R.push R.base (o := ({ cls := .type "tuple", data := .seq [v2, v3, v4].toArray } : Obj)) (ao := .tup [a, b, c]) ⟨rfl, 0, [v2, v3, v4], rfl, r2.mono, r3.mono, r4.mono, trivial⟩ rfl
      have xt : Ext ρ h _ _ := Ext.push ({ cls := .type "tuple", data := .seq [v2, v3, v4].toArray } : Obj)
      have R₁ := Rt.grown keep
      have vr : VarsRel (ρ ++ [h.objs.size]) fi.names [some s, some (AV.obj σ.length)] (fun x => ([(("self" : Str), v1), (("args" : Str), Value.ref h.objs.size)] : List (Str × Value)).reverse.lookup x) := fun i y hy => by
        rw [hn] at hy
        match i, hy with
        | 0, hy =>
          cases hy
          exact ⟨v1, by kernel_rfl, r1.mono⟩
        | 1, hy =>
          cases hy
          exact ⟨.ref h.objs.size, by kernel_rfl, h.objs.size, R.newAt, rfl⟩
      have S : FS fi h₀ (ρ ++ [h.objs.size]) (σ ++ [.tup [a, b, c]]) h₁ (h.push ({ cls := .type "tuple", data := .seq [v2, v3, v4].toArray } : Obj)).objs.size _ [some s, some (AV.obj σ.length)] :=
        ⟨R₁, ⟨hns, R₁.keep, Rt.base⟩, Rt.notin, vr, fun x a e => by rw [D.nocl] at e; cases e⟩
      have henv : newEnv fi.scope (h.push ({ cls := .type "tuple", data := .seq [v2, v3, v4].toArray } : Obj)).objs.size mainGlobals [] (fi.qual ++ ".<locals>.") (some fi.addr) fi.cd none builtinsNs = fi.env (h.push ({ cls := .type "tuple", data := .seq [v2, v3, v4].toArray } : Obj)).objs.size := by
        unfold FI.env
        rw [D.nocl]
        rfl
      show T _ _ (A.deeper (newEnv fi.scope (h.push ({ cls := .type "tuple", data := .seq [v2, v3, v4].toArray } : Obj)).objs.size mainGlobals [] (fi.qual ++ ".<locals>.") (some fi.addr) fi.cd none builtinsNs)) (execs body (newEnv fi.scope (h.push ({ cls := .type "tuple", data := .seq [v2, v3, v4].toArray } : Obj)).objs.size mainGlobals [] (fi.qual ++ ".<locals>.") (some fi.addr) fi.cd none builtinsNs)) _ _
      rw [henv]
      refine T.mono (hf B (CD _) D.ok S e1) fun fl' h' k => ?_
      obtain ⟨ρ', m', xl, S', rf⟩ := k
      have x2 : Ext ρ h ρ' h' := by
        obtain ⟨ts, hts⟩ := xl.pre
        refine ⟨⟨[h.objs.size] ++ ts, by rw [hts, List.append_assoc]⟩, fun q hq => ?_, fun q o hq hnq => ?_⟩
        · rcases xl.new q hq with z | z
          · exact xt.new q z
          · exact .inr (none_back kp (none_back keep z))
        · have hlt := Heap.lt_size hq
          refine xl.keep q o (keep q o (kp q o hq)) (fun z => ?_) ?_
          · rcases List.mem_append.mp z with z | z
            · exact hnq z
            · rw [List.mem_singleton.mp z] at hlt; exact Nat.lt_irrefl _ hlt
          · rw [Heap.size_push]; exact Nat.ne_of_lt (Nat.lt_succ_of_lt hlt)
      dsimp only at e
      cases fl with
      | next =>
        cases e
        rw [show fl' = .next from rf]
        exact ⟨_, rfl, ρ', x2, S'.rep, rfl⟩
      | ret a =>
        cases e
        obtain ⟨v, rfl, rv⟩ := rf
        exact ⟨_, rfl, ρ', x2, S'.rep, rv⟩
      | cont => cases e
      | brk => cases e
  · cases e
end Mine
set_option maxRecDepth 100000
namespace Mine
noncomputable def fi_U64 : FI := { addr := 591, qual := "Builder.PrependUint64Slot", scope := stScope (inSt 37 35), cd := .ref 590, names := ["self", "args"] }
theorem def_U64 : DefOK fi_U64 (stParams (inSt 37 35)) (stPart (inSt 37 35)) .none .none :=
  ⟨⟨.type "function", none, "PrependUint64Slot", .none, .str "flatbuffers.builder" 726, none, .none, #[], fun P => by kernel_rfl⟩, fun P => by kernel_rfl, ⟨by kernel_rfl, by decide +kernel, by decide⟩, by kernel_rfl, by kernel_rfl, by kernel_rfl, fun _ => rfl⟩
theorem g_Uint64Flags : StaticG "Uint64Flags" (.ref 106) := ⟨fun P => by kernel_rfl, by decide⟩
theorem g_Int32FlagsS : StaticG "Int32Flags" (.ref 120) := ⟨fun P => by kernel_rfl, by decide⟩
noncomputable def x_U64 : Ex := xSeq (xExpr (eStar (.st (.ref 106)) f_Builder_PrependSlot)) xNil
noncomputable def fi_I32 : FI := { addr := 612, qual := "Builder.PrependInt32Slot", scope := stScope (inSt 37 38), cd := .ref 611, names := ["self", "args"] }
theorem def_I32 : DefOK fi_I32 (stParams (inSt 37 38)) (stPart (inSt 37 38)) .none .none :=
  ⟨⟨.type "function", none, "PrependInt32Slot", .none, .str "flatbuffers.builder" 726, none, .none, #[], fun P => by kernel_rfl⟩, fun P => by kernel_rfl, ⟨by kernel_rfl, by decide +kernel, by decide⟩, by kernel_rfl, by kernel_rfl, by kernel_rfl, fun _ => rfl⟩
noncomputable def x_I32 : Ex := xSeq (xExpr (eStar (.st (.ref 120)) f_Builder_PrependSlot)) xNil
theorem FnCT.le {d d' : Nat} {a : Addr} {kn : List Str} {F : Fn} (hF : FnCT d a kn F) (h : d ≤ d') : FnCT d' a kn F := fun _ => fun B C => hF B (C.le h)
theorem body_U64 : ExsOK fi_U64 8 x_U64 (stPart (inSt 37 35)) := ExsOK.cons (ExOK.expr (by rfl) (EvOK.star (by rfl) (by rfl) (EvOK.gbl g_Uint64Flags (by kernel_rfl)) (by rfl) (fun _ _ => rfl) (ct_Builder_PrependSlot.le (by decide)))) ExsOK.nil
theorem body_I32 : ExsOK fi_I32 8 x_I32 (stPart (inSt 37 38)) := ExsOK.cons (ExOK.expr (by rfl) (EvOK.star (by rfl) (by rfl) (EvOK.gbl g_Int32FlagsS (by kernel_rfl)) (by rfl) (fun _ _ => rfl) (ct_Builder_PrependSlot.le (by decide)))) ExsOK.nil
noncomputable def f_U64 : Fn := fStar fi_U64 x_U64
noncomputable def f_I32 : Fn := fStar fi_I32 x_I32
theorem ok_U64 : FnOK 9 (.ref 591) [] f_U64 := FnOK.star def_U64 body_U64 rfl fun name doc pm an ct a b c e => by kernel_rfl
theorem ok_I32 : FnOK 9 (.ref 612) [] f_I32 := FnOK.star def_I32 body_I32 rfl fun name doc pm an ct a b c e => by kernel_rfl
end Mine
set_option maxRecDepth 100000
namespace Mine

theorem m_builder_CreateByteVector : MethK .builder "CreateByteVector" 483 := fun P => by kernel_rfl
theorem m_builder_CreateString : MethK .builder "CreateString" 476 := fun P => by kernel_rfl
theorem m_builder_StartObject : MethK .builder "StartObject" 384 := fun P => by kernel_rfl
theorem m_builder_PrependUint64Slot : MethK .builder "PrependUint64Slot" 591 := fun P => by kernel_rfl
theorem m_builder_PrependUOffsetTRelativeSlot : MethK .builder "PrependUOffsetTRelativeSlot" 626 := fun P => by kernel_rfl
theorem m_builder_PrependInt32Slot : MethK .builder "PrependInt32Slot" 612 := fun P => by kernel_rfl
theorem m_builder_EndObject : MethK .builder "EndObject" 398 := fun P => by kernel_rfl
theorem m_builder_Finish : MethK .builder "Finish" 527 := fun P => by kernel_rfl
theorem m_builder_FinishSizePrefixed : MethK .builder "FinishSizePrefixed" 535 := fun P => by kernel_rfl
theorem m_builder_Output : MethK .builder "Output" 377 := fun P => by kernel_rfl
theorem g_GetSizePrefix : StaticG "GetSizePrefix" (.ref 769) := ⟨fun P => by kernel_rfl, by decide⟩
theorem g_BufferHasIdentifier : StaticG "BufferHasIdentifier" (.ref 785) := ⟨fun P => by kernel_rfl, by decide⟩
theorem g_Table : StaticG "Table" (.ref 263) := ⟨fun P => by kernel_rfl, by decide⟩
theorem m_table_GetSlot : MethK .table "GetSlot" 252 := fun P => by kernel_rfl
theorem m_table_String : MethK .table "String" 217 := fun P => by kernel_rfl
theorem m_table_Vector : MethK .table "Vector" 231 := fun P => by kernel_rfl
theorem m_table_VectorLen : MethK .table "VectorLen" 224 := fun P => by kernel_rfl
noncomputable def fi_law_made : FI := { addr := 792, qual := "_law_made", scope := stScope (topSt 43), cd := .ref 791, names := ["number", "text", "great", "inner", "first", "finish", "size", "builder", "root", "mark", "row", "words"] }
theorem def_law_made : DefOK fi_law_made (stParams (topSt 43)) (stPart (topSt 43)) .none .none :=
  ⟨⟨.type "function", none, "_law_made", .none, .str "law_bb0043_01" 1419, none, .none, #[], fun P => by kernel_rfl⟩, fun P => by kernel_rfl, ⟨by kernel_rfl, by decide +kernel, by decide⟩, by kernel_rfl, by kernel_rfl, by kernel_rfl, fun _ => rfl⟩
noncomputable def x_law_made : Ex := (xSeq (xAsg 7 (eCall ([(eVar 6)] ++ []) f_newBuilder)) (xSeq (xUnp [10, 11] (eTup [(eConst (.int 0)), (eConst (.int 0))])) (xSeq (xIf (bAnd (bVal (eVar 4)) (bCmp mIsNot (eVar 3) (eConst .none))) (xSeq (xAsg 10 (eMeth (eVar 7) (selI .builder) ([(eVar 3)] ++ []) f_Builder_CreateByteVector)) xNil) xNil) (xSeq (xIf (bCmp mIsNot (eVar 1) (eConst .none)) (xSeq (xAsg 11 (eMeth (eVar 7) (selI .builder) ([(eVar 1)] ++ []) f_Builder_CreateString)) xNil) xNil) (xSeq (xIf (bAnd (bNot (bVal (eVar 4))) (bCmp mIsNot (eVar 3) (eConst .none))) (xSeq (xAsg 10 (eMeth (eVar 7) (selI .builder) ([(eVar 3)] ++ []) f_Builder_CreateByteVector)) xNil) xNil) (xSeq (xExpr (eMeth (eVar 7) (selI .builder) ([(eConst (.int 4))] ++ []) f_Builder_StartObject)) (xSeq (xExpr (eMeth (eVar 7) (selI .builder) ([(eConst (.int 3)), (eVar 2), (eConst (.int 0))] ++ []) f_U64)) (xSeq (xExpr (eMeth (eVar 7) (selI .builder) ([(eConst (.int 2)), (eVar 10), (eConst (.int 0))] ++ []) f_Builder_PrependUOffsetTRelativeSlot)) (xSeq (xExpr (eMeth (eVar 7) (selI .builder) ([(eConst (.int 1)), (eVar 11), (eConst (.int 0))] ++ []) f_Builder_PrependUOffsetTRelativeSlot)) (xSeq (xExpr (eMeth (eVar 7) (selI .builder) ([(eConst (.int 0)), (eVar 0), (eConst (.int 5))] ++ []) f_I32)) (xSeq (xAsg 8 (eMeth (eVar 7) (selI .builder) ([] ++ []) f_Builder_EndObject)) (xSeq (xAsg 9 (eBin gItem (eList [(eConst .none), (eConst (.bytes [76, 65, 87, 49])), (eConst .none), (eConst (.bytes [108, 97, 119, 50]))]) (eVar 5))) (xSeq (xIf (bCmp mLt (eVar 5) (eConst (.int 2))) (xSeq (xExpr (eMeth (eVar 7) (selI .builder) ([(eVar 8)] ++ [(eVar 9)]) f_Builder_Finish)) xNil) (xSeq (xExpr (eMeth (eVar 7) (selI .builder) ([(eVar 8)] ++ [(eVar 9)]) f_Builder_FinishSizePrefixed)) xNil)) (xSeq (xRet (eCall ([(eMeth (eVar 7) (selI .builder) ([] ++ []) f_Builder_Output)] ++ []) fBytes)) xNil))))))))))))))
theorem body_law_made : ExsOK fi_law_made 9 x_law_made (stPart (topSt 43)) :=
  (ExsOK.cons (ExOK.asg (by rfl) (by rfl) (EvOK.call (EvOK.gbl g_Builder (by kernel_rfl)) (KeepsOK.ref fun P => by kernel_rfl) (ok_newBuilder.le (by decide)) (EvAll.cons (EvOK.var (by rfl)) (by rfl) EvAll.nil) EvKw.nil)) (ExsOK.cons (ExOK.unp (by rfl) (fun _ _ => rfl) (fun _ => by kernel_rfl) (EvOK.tup (EvAll.cons EvOK.int (by rfl) (EvAll.cons EvOK.int (by rfl) EvAll.nil)) (by decide))) (ExsOK.cons (ExOK.ite (BoOK.and (BoOK.val (by rfl) (EvOK.var (by rfl))) (BoOK.cmp opIsNot (EvOK.var (by rfl)) EvOK.none (by rfl))) (ExsOK.cons (ExOK.asg (by rfl) (by rfl) (EvOK.meth (EvOK.var (by rfl)) (by rfl) (methI m_builder_CreateByteVector) (selI_true _) m_builder_CreateByteVector.keeps (ok_Builder_CreateByteVector.le (by decide)) (EvAll.cons (EvOK.var (by rfl)) (by rfl) EvAll.nil) EvKw.nil (by rfl) (by decide))) ExsOK.nil) ExsOK.nil) (ExsOK.cons (ExOK.ite (BoOK.cmp opIsNot (EvOK.var (by rfl)) EvOK.none (by rfl)) (ExsOK.cons (ExOK.asg (by rfl) (by rfl) (EvOK.meth (EvOK.var (by rfl)) (by rfl) (methI m_builder_CreateString) (selI_true _) m_builder_CreateString.keeps (ok_Builder_CreateString.le (by decide)) (EvAll.cons (EvOK.var (by rfl)) (by rfl) EvAll.nil) EvKw.nil (by rfl) (by decide))) ExsOK.nil) ExsOK.nil) (ExsOK.cons (ExOK.ite (BoOK.and (BoOK.not (BoOK.val (by rfl) (EvOK.var (by rfl)))) (BoOK.cmp opIsNot (EvOK.var (by rfl)) EvOK.none (by rfl))) (ExsOK.cons (ExOK.asg (by rfl) (by rfl) (EvOK.meth (EvOK.var (by rfl)) (by rfl) (methI m_builder_CreateByteVector) (selI_true _) m_builder_CreateByteVector.keeps (ok_Builder_CreateByteVector.le (by decide)) (EvAll.cons (EvOK.var (by rfl)) (by rfl) EvAll.nil) EvKw.nil (by rfl) (by decide))) ExsOK.nil) ExsOK.nil) (ExsOK.cons (ExOK.expr (by rfl) (EvOK.meth (EvOK.var (by rfl)) (by rfl) (methI m_builder_StartObject) (selI_true _) m_builder_StartObject.keeps (ok_Builder_StartObject.le (by decide)) (EvAll.cons EvOK.int (by rfl) EvAll.nil) EvKw.nil (by rfl) (by decide))) (ExsOK.cons (ExOK.expr (by rfl) (EvOK.meth (EvOK.var (by rfl)) (by rfl) (methI m_builder_PrependUint64Slot) (selI_true _) m_builder_PrependUint64Slot.keeps (ok_U64.le (by decide)) (EvAll.cons EvOK.int (by rfl) (EvAll.cons (EvOK.var (by rfl)) (by rfl) (EvAll.cons EvOK.int (by rfl) EvAll.nil))) EvKw.nil (by rfl) (by decide))) (ExsOK.cons (ExOK.expr (by rfl) (EvOK.meth (EvOK.var (by rfl)) (by rfl) (methI m_builder_PrependUOffsetTRelativeSlot) (selI_true _) m_builder_PrependUOffsetTRelativeSlot.keeps (ok_Builder_PrependUOffsetTRelativeSlot.le (by decide)) (EvAll.cons EvOK.int (by rfl) (EvAll.cons (EvOK.var (by rfl)) (by rfl) (EvAll.cons EvOK.int (by rfl) EvAll.nil))) EvKw.nil (by rfl) (by decide))) (ExsOK.cons (ExOK.expr (by rfl) (EvOK.meth (EvOK.var (by rfl)) (by rfl) (methI m_builder_PrependUOffsetTRelativeSlot) (selI_true _) m_builder_PrependUOffsetTRelativeSlot.keeps (ok_Builder_PrependUOffsetTRelativeSlot.le (by decide)) (EvAll.cons EvOK.int (by rfl) (EvAll.cons (EvOK.var (by rfl)) (by rfl) (EvAll.cons EvOK.int (by rfl) EvAll.nil))) EvKw.nil (by rfl) (by decide))) (ExsOK.cons (ExOK.expr (by rfl) (EvOK.meth (EvOK.var (by rfl)) (by rfl) (methI m_builder_PrependInt32Slot) (selI_true _) m_builder_PrependInt32Slot.keeps (ok_I32.le (by decide)) (EvAll.cons EvOK.int (by rfl) (EvAll.cons (EvOK.var (by rfl)) (by rfl) (EvAll.cons EvOK.int (by rfl) EvAll.nil))) EvKw.nil (by rfl) (by decide))) (ExsOK.cons (ExOK.asg (by rfl) (by rfl) (EvOK.meth (EvOK.var (by rfl)) (by rfl) (methI m_builder_EndObject) (selI_true _) m_builder_EndObject.keeps (ok_Builder_EndObject.le (by decide)) EvAll.nil EvKw.nil (by rfl) (by decide))) (ExsOK.cons (ExOK.asg (by rfl) (by rfl) (EvOK.sub okItem (EvOK.list (EvAll.cons EvOK.none (by rfl) (EvAll.cons EvOK.bytes (by rfl) (EvAll.cons EvOK.none (by rfl) (EvAll.cons EvOK.bytes (by rfl) EvAll.nil)))) (by decide)) (EvOK.var (by rfl)))) (ExsOK.cons (ExOK.ite (BoOK.cmp opLt (EvOK.var (by rfl)) EvOK.int (by rfl)) (ExsOK.cons (ExOK.expr (by rfl) (EvOK.meth (EvOK.var (by rfl)) (by rfl) (methI m_builder_Finish) (selI_true _) m_builder_Finish.keeps (ok_Builder_Finish.le (by decide)) (EvAll.cons (EvOK.var (by rfl)) (by rfl) EvAll.nil) (EvKw.cons (EvOK.var (by rfl)) EvKw.nil) (by rfl) (by decide))) ExsOK.nil) (ExsOK.cons (ExOK.expr (by rfl) (EvOK.meth (EvOK.var (by rfl)) (by rfl) (methI m_builder_FinishSizePrefixed) (selI_true _) m_builder_FinishSizePrefixed.keeps (ok_Builder_FinishSizePrefixed.le (by decide)) (EvAll.cons (EvOK.var (by rfl)) (by rfl) EvAll.nil) (EvKw.cons (EvOK.var (by rfl)) EvKw.nil) (by rfl) (by decide))) ExsOK.nil)) (ExsOK.cons (ExOK.ret (EvOK.call (EvOK.blt b_bytes (by kernel_rfl)) KeepsOK.type okBytes (EvAll.cons (EvOK.meth (EvOK.var (by rfl)) (by rfl) (methI m_builder_Output) (selI_true _) m_builder_Output.keeps (ok_Builder_Output.le (by decide)) EvAll.nil EvKw.nil (by rfl) (by decide)) (by rfl) EvAll.nil) EvKw.nil)) ExsOK.nil))))))))))))))
noncomputable def f_law_made : Fn := fDef [] (fFun fi_law_made 7 x_law_made)
theorem ct_law_made : FnCT 10 792 [] f_law_made := FnCT.def (da := []) (dv := []) def_law_made body_law_made (fun _ => trivial) (by decide) fun w s name doc pm an ct ps ks X h1 h2 => by
  obtain rfl := len0 h2
  have g : ps.length = 7 := h1
  obtain ⟨p0, p1, p2, p3, p4, p5, p6, rfl⟩ := len7 g
  exact BindsTo.of_eq (by kernel_rfl)
theorem ok_law_made : FnOK 10 (.ref 792) [] f_law_made := ct_law_made.ok
noncomputable def fi_law_level : FI := { addr := 799, qual := "_law_level", scope := stScope (topSt 44), cd := .ref 798, names := ["octets", "start", "many", "want", "sized", "mark", "at", "table", "place", "row", "number", "text", "great", "inner", "finish"] }
theorem def_law_level : DefOK fi_law_level (stParams (topSt 44)) (stPart (topSt 44)) .none .none :=
  ⟨⟨.type "function", none, "_law_level", .none, .str "law_bb0043_01" 1419, none, .none, #[], fun P => by kernel_rfl⟩, fun P => by kernel_rfl, ⟨by kernel_rfl, by decide +kernel, by decide⟩, by kernel_rfl, by kernel_rfl, by kernel_rfl, fun _ => rfl⟩
noncomputable def x_law_level : Ex := (xSeq (xUnp [10, 11, 12, 13, 14] (eCut (eVar 3) none (some (eConst (.int 5))))) (xSeq (xAsg 4 (eCmp mGt (eVar 14) (eConst (.int 1)))) (xSeq (xIf (bAnd (bVal (eVar 4)) (bCmp mNe (eCall ([(eVar 0), (eVar 1)] ++ []) f_GetSizePrefix) (eBin mSub (eVar 2) (eConst (.int 4))))) (xSeq (xRet (eConst .none)) xNil) xNil) (xSeq (xFor 5 70 (iTup (eTup [(eConst (.bytes [76, 65, 87, 49])), (eConst (.bytes [108, 97, 119, 50])), (eConst (.bytes [108, 97, 119, 49]))])) (xSeq (xIf (bAnd (bCmp mEq (eBin mMod (eVar 14) (eConst (.int 2))) (eConst (.int 1))) (bCmp mNe (eCall ([(eVar 0), (eVar 1), (eVar 5)] ++ [(eVar 4)]) f_BufferHasIdentifier) (eCmp mEq (eVar 5) (eBin gItem (eList [(eConst (.bytes [])), (eConst (.bytes [76, 65, 87, 49])), (eConst (.bytes [])), (eConst (.bytes [108, 97, 119, 50]))]) (eVar 14))))) (xSeq (xRet (eConst .none)) xNil) xNil) xNil)) (xSeq (xIf (bAnd (bCmp mEq (eBin mMod (eVar 14) (eConst (.int 2))) (eConst (.int 1))) (bCmp mNe (eCall ([(eCall ([(eVar 0), (eVar 1)] ++ [(eVar 4)]) f_GetBufferIdentifier)] ++ []) fBytes) (eBin gItem (eList [(eConst (.bytes [])), (eConst (.bytes [76, 65, 87, 49])), (eConst (.bytes [])), (eConst (.bytes [108, 97, 119, 50]))]) (eVar 14)))) (xSeq (xRet (eConst .none)) xNil) xNil) (xSeq (xAsg 6 (eBin mAdd (eVar 1) (eIf (bVal (eVar 4)) (eConst (.int 4)) (eConst (.int 0))))) (xSeq (xAsg 7 (eCall ([(eVar 0), (eBin mAdd (eBin mAdd (eVar 6) (eBin gItem (eVar 0) (eVar 6))) (eBin mMul (eConst (.int 256)) (eBin gItem (eVar 0) (eBin mAdd (eVar 6) (eConst (.int 1))))))] ++ []) f_newTable)) (xSeq (xIf (bCmp mNe (eTup [(eMeth (eVar 7) (selI .table) ([(eConst (.int 4)), (eConst (.int 5)), (eSt (.ref 120))] ++ []) f_Table_GetSlot), (eMeth (eVar 7) (selI .table) ([(eConst (.int 10)), (eConst (.int 0)), (eSt (.ref 106))] ++ []) f_Table_GetSlot)]) (eTup [(eVar 10), (eVar 12)])) (xSeq (xRet (eConst .none)) xNil) xNil) (xSeq (xAsg 8 (eMeth (eVar 7) (selI .table) ([(eConst (.int 6))] ++ []) f_Table_Offset)) (xSeq (xIf (bCmp mNe (eIf (bCmp mEq (eVar 8) (eConst (.int 0))) (eConst .none) (eMeth (eVar 7) (selI .table) ([(eBin mAdd (eAttr (eVar 7) (semSlot .table 1)) (eVar 8))] ++ []) f_Table_String)) (eIf (bCmp mIs (eVar 11) (eConst .none)) (eConst .none) (eMeth (eVar 11) selStr ([(eConst (.str "utf-8"))] ++ []) fEnc))) (xSeq (xRet (eConst .none)) xNil) xNil) (xSeq (xAsg 8 (eMeth (eVar 7) (selI .table) ([(eConst (.int 8))] ++ []) f_Table_Offset)) (xSeq (xIf (bCmp mNe (eCmp mEq (eVar 8) (eConst (.int 0))) (eCmp mIs (eVar 13) (eConst .none))) (xSeq (xRet (eConst .none)) xNil) xNil) (xSeq (xIf (bCmp mEq (eVar 8) (eConst (.int 0))) (xSeq (xRet (eList [(eConst (.int 0)), (eConst (.int 0))])) xNil) xNil) (xSeq (xAsg 9 (eList [(eMeth (eVar 7) (selI .table) ([(eVar 8)] ++ []) f_Table_Vector), (eMeth (eVar 7) (selI .table) ([(eVar 8)] ++ []) f_Table_VectorLen)])) (xSeq (xRet (eIf (bCmp mEq (eCall ([(eCut (eVar 0) (some (eBin gItem (eVar 9) (eConst (.int 0)))) (some (eBin mAdd (eBin gItem (eVar 9) (eConst (.int 0))) (eBin gItem (eVar 9) (eConst (.int 1))))))] ++ []) fBytes) (eVar 13)) (eVar 9) (eConst .none))) xNil)))))))))))))))
theorem body_law_level : ExsOK fi_law_level 4 x_law_level (stPart (topSt 44)) :=
  (ExsOK.cons (ExOK.unp (by rfl) (fun _ _ => rfl) (fun _ => by kernel_rfl) (EvOK.cut (EvOK.var (by rfl)) OptOK.no (OptOK.so EvOK.int))) (ExsOK.cons (ExOK.asg (by rfl) (by rfl) (EvOK.cmp opGt (EvOK.var (by rfl)) EvOK.int (by rfl))) (ExsOK.cons (ExOK.ite (BoOK.and (BoOK.val (by rfl) (EvOK.var (by rfl))) (BoOK.cmp opNe (EvOK.call (EvOK.gbl g_GetSizePrefix (by kernel_rfl)) (KeepsOK.ref fun P => by kernel_rfl) (ok_GetSizePrefix.le (by decide)) (EvAll.cons (EvOK.var (by rfl)) (by rfl) (EvAll.cons (EvOK.var (by rfl)) (by rfl) EvAll.nil)) EvKw.nil) (EvOK.bin opSub (EvOK.var (by rfl)) EvOK.int) (by rfl))) (ExsOK.cons (ExOK.ret EvOK.none) ExsOK.nil) ExsOK.nil) (ExsOK.cons (ExOK.for (by rfl) (IterOK.tup (EvOK.tup (EvAll.cons EvOK.bytes (by rfl) (EvAll.cons EvOK.bytes (by rfl) (EvAll.cons EvOK.bytes (by rfl) EvAll.nil))) (by decide))) (ExsOK.cons (ExOK.ite (BoOK.and (BoOK.cmp opEq (EvOK.bin opMod (EvOK.var (by rfl)) EvOK.int) EvOK.int (by rfl)) (BoOK.cmp opNe (EvOK.call (EvOK.gbl g_BufferHasIdentifier (by kernel_rfl)) (KeepsOK.ref fun P => by kernel_rfl) (ok_BufferHasIdentifier.le (by decide)) (EvAll.cons (EvOK.var (by rfl)) (by rfl) (EvAll.cons (EvOK.var (by rfl)) (by rfl) (EvAll.cons (EvOK.var (by rfl)) (by rfl) EvAll.nil))) (EvKw.cons (EvOK.var (by rfl)) EvKw.nil)) (EvOK.cmp opEq (EvOK.var (by rfl)) (EvOK.sub okItem (EvOK.list (EvAll.cons EvOK.bytes (by rfl) (EvAll.cons EvOK.bytes (by rfl) (EvAll.cons EvOK.bytes (by rfl) (EvAll.cons EvOK.bytes (by rfl) EvAll.nil)))) (by decide)) (EvOK.var (by rfl))) (by rfl)) (by rfl))) (ExsOK.cons (ExOK.ret EvOK.none) ExsOK.nil) ExsOK.nil) ExsOK.nil) (fun _ _ => rfl)) (ExsOK.cons (ExOK.ite (BoOK.and (BoOK.cmp opEq (EvOK.bin opMod (EvOK.var (by rfl)) EvOK.int) EvOK.int (by rfl)) (BoOK.cmp opNe (EvOK.call (EvOK.blt b_bytes (by kernel_rfl)) KeepsOK.type okBytes (EvAll.cons (EvOK.call (EvOK.gbl g_GetBufferIdentifier (by kernel_rfl)) (KeepsOK.ref fun P => by kernel_rfl) (ok_GetBufferIdentifier.le (by decide)) (EvAll.cons (EvOK.var (by rfl)) (by rfl) (EvAll.cons (EvOK.var (by rfl)) (by rfl) EvAll.nil)) (EvKw.cons (EvOK.var (by rfl)) EvKw.nil)) (by rfl) EvAll.nil) EvKw.nil) (EvOK.sub okItem (EvOK.list (EvAll.cons EvOK.bytes (by rfl) (EvAll.cons EvOK.bytes (by rfl) (EvAll.cons EvOK.bytes (by rfl) (EvAll.cons EvOK.bytes (by rfl) EvAll.nil)))) (by decide)) (EvOK.var (by rfl))) (by rfl))) (ExsOK.cons (ExOK.ret EvOK.none) ExsOK.nil) ExsOK.nil) (ExsOK.cons (ExOK.asg (by rfl) (by rfl) (EvOK.bin opAdd (EvOK.var (by rfl)) (EvOK.ite (BoOK.val (by rfl) (EvOK.var (by rfl))) EvOK.int EvOK.int))) (ExsOK.cons (ExOK.asg (by rfl) (by rfl) (EvOK.call (EvOK.gbl g_Table (by kernel_rfl)) (KeepsOK.ref fun P => by kernel_rfl) (ok_newTable.le (by decide)) (EvAll.cons (EvOK.var (by rfl)) (by rfl) (EvAll.cons (EvOK.bin opAdd (EvOK.bin opAdd (EvOK.var (by rfl)) (EvOK.sub okItem (EvOK.var (by rfl)) (EvOK.var (by rfl)))) (EvOK.bin opMul EvOK.int (EvOK.sub okItem (EvOK.var (by rfl)) (EvOK.bin opAdd (EvOK.var (by rfl)) EvOK.int)))) (by rfl) EvAll.nil)) EvKw.nil)) (ExsOK.cons (ExOK.ite (BoOK.cmp opNe (EvOK.tup (EvAll.cons (EvOK.meth (EvOK.var (by rfl)) (by rfl) (methI m_table_GetSlot) (selI_true _) m_table_GetSlot.keeps (ok_Table_GetSlot.le (by decide)) (EvAll.cons EvOK.int (by rfl) (EvAll.cons EvOK.int (by rfl) (EvAll.cons (EvOK.gbl g_Int32Flags (by kernel_rfl)) (by rfl) EvAll.nil))) EvKw.nil (by rfl) (by decide)) (by rfl) (EvAll.cons (EvOK.meth (EvOK.var (by rfl)) (by rfl) (methI m_table_GetSlot) (selI_true _) m_table_GetSlot.keeps (ok_Table_GetSlot.le (by decide)) (EvAll.cons EvOK.int (by rfl) (EvAll.cons EvOK.int (by rfl) (EvAll.cons (EvOK.gbl g_Uint64Flags (by kernel_rfl)) (by rfl) EvAll.nil))) EvKw.nil (by rfl) (by decide)) (by rfl) EvAll.nil)) (by decide)) (EvOK.tup (EvAll.cons (EvOK.var (by rfl)) (by rfl) (EvAll.cons (EvOK.var (by rfl)) (by rfl) EvAll.nil)) (by decide)) (by rfl)) (ExsOK.cons (ExOK.ret EvOK.none) ExsOK.nil) ExsOK.nil) (ExsOK.cons (ExOK.asg (by rfl) (by rfl) (EvOK.meth (EvOK.var (by rfl)) (by rfl) (methI m_table_Offset) (selI_true _) m_table_Offset.keeps (ok_Table_Offset.le (by decide)) (EvAll.cons EvOK.int (by rfl) EvAll.nil) EvKw.nil (by rfl) (by decide))) (ExsOK.cons (ExOK.ite (BoOK.cmp opNe (EvOK.ite (BoOK.cmp opEq (EvOK.var (by rfl)) EvOK.int (by rfl)) EvOK.none (EvOK.meth (EvOK.var (by rfl)) (by rfl) (methI m_table_String) (selI_true _) m_table_String.keeps (ok_Table_String.le (by decide)) (EvAll.cons (EvOK.bin opAdd (EvOK.attr (by rfl) (attrSlot tPos) (EvOK.var (by rfl))) (EvOK.var (by rfl))) (by rfl) EvAll.nil) EvKw.nil (by rfl) (by decide))) (EvOK.ite (BoOK.cmp opIs (EvOK.var (by rfl)) EvOK.none (by rfl)) EvOK.none (EvOK.meth (EvOK.var (by rfl)) (by rfl) methEnc selStr_true KeepsOK.builtin okEnc (EvAll.cons EvOK.str (by rfl) EvAll.nil) EvKw.nil (by rfl) (by decide))) (by rfl)) (ExsOK.cons (ExOK.ret EvOK.none) ExsOK.nil) ExsOK.nil) (ExsOK.cons (ExOK.asg (by rfl) (by rfl) (EvOK.meth (EvOK.var (by rfl)) (by rfl) (methI m_table_Offset) (selI_true _) m_table_Offset.keeps (ok_Table_Offset.le (by decide)) (EvAll.cons EvOK.int (by rfl) EvAll.nil) EvKw.nil (by rfl) (by decide))) (ExsOK.cons (ExOK.ite (BoOK.cmp opNe (EvOK.cmp opEq (EvOK.var (by rfl)) EvOK.int (by rfl)) (EvOK.cmp opIs (EvOK.var (by rfl)) EvOK.none (by rfl)) (by rfl)) (ExsOK.cons (ExOK.ret EvOK.none) ExsOK.nil) ExsOK.nil) (ExsOK.cons (ExOK.ite (BoOK.cmp opEq (EvOK.var (by rfl)) EvOK.int (by rfl)) (ExsOK.cons (ExOK.ret (EvOK.list (EvAll.cons EvOK.int (by rfl) (EvAll.cons EvOK.int (by rfl) EvAll.nil)) (by decide))) ExsOK.nil) ExsOK.nil) (ExsOK.cons (ExOK.asg (by rfl) (by rfl) (EvOK.list (EvAll.cons (EvOK.meth (EvOK.var (by rfl)) (by rfl) (methI m_table_Vector) (selI_true _) m_table_Vector.keeps (ok_Table_Vector.le (by decide)) (EvAll.cons (EvOK.var (by rfl)) (by rfl) EvAll.nil) EvKw.nil (by rfl) (by decide)) (by rfl) (EvAll.cons (EvOK.meth (EvOK.var (by rfl)) (by rfl) (methI m_table_VectorLen) (selI_true _) m_table_VectorLen.keeps (ok_Table_VectorLen.le (by decide)) (EvAll.cons (EvOK.var (by rfl)) (by rfl) EvAll.nil) EvKw.nil (by rfl) (by decide)) (by rfl) EvAll.nil)) (by decide))) (ExsOK.cons (ExOK.ret (EvOK.ite (BoOK.cmp opEq (EvOK.call (EvOK.blt b_bytes (by kernel_rfl)) KeepsOK.type okBytes (EvAll.cons (EvOK.cut (EvOK.var (by rfl)) (OptOK.so (EvOK.sub okItem (EvOK.var (by rfl)) EvOK.int)) (OptOK.so (EvOK.bin opAdd (EvOK.sub okItem (EvOK.var (by rfl)) EvOK.int) (EvOK.sub okItem (EvOK.var (by rfl)) EvOK.int)))) (by rfl) EvAll.nil) EvKw.nil) (EvOK.var (by rfl)) (by rfl)) (EvOK.var (by rfl)) EvOK.none)) ExsOK.nil)))))))))))))))
noncomputable def f_law_level : Fn := fDef [] (fFun fi_law_level 4 x_law_level)
theorem ct_law_level : FnCT 5 799 [] f_law_level := FnCT.def (da := []) (dv := []) def_law_level body_law_level (fun _ => trivial) (by decide) fun w s name doc pm an ct ps ks X h1 h2 => by
  obtain rfl := len0 h2
  have g : ps.length = 4 := h1
  obtain ⟨p0, p1, p2, p3, rfl⟩ := len4 g
  exact BindsTo.of_eq (by kernel_rfl)
theorem ok_law_level : FnOK 5 (.ref 799) [] f_law_level := ct_law_level.ok
end Mine
set_option maxRecDepth 100000
namespace Mine
section
variable {fi : FI} {d : Nat}
/-- a cell's value -/
noncomputable def eCell (c : Nat) : Ev := fun _ σ => match σ[c]? with
  | some (.cell (some a)) => some (a, σ)
  | _ => none
theorem EvOK.cell {c : Nat} {x : Str} {p : Pos} (hi : fi.ci = c) (hk : fi.scope.names.lookup x = some .cell) (hc : ∀ L, ∃ a, (fi.cl L).lookup x = some a) (hd : (x == ("__debug__" : Str)) = false) : EvOK fi d (eCell c) (.Name x p) := by
  subst hi
  intro prog w os h₀ A ρ σ h L m vars a σ' B C ok S e
  unfold eCell at e
  split at e
  · rename_i b q
    cases e
    obtain ⟨c, hc⟩ := hc L
    have hr := S.cells x c hc
    obtain ⟨o, ho, u, hu, v, rfl, rv⟩ := S.rep.get q hr
    refine T.any fun s e g o' => ?_
    subst e
    exact wpAny_Name (wpAny_loadName_cell (env := fi.env L) ok.kind hk hc ⟨o, ho, hu⟩ ⟨g, o', ρ, Ext.refl, S.rep, rv⟩) hd
  · cases e
noncomputable def xAsgC (c : Nat) (f : Ev) : Ex := fun vars σ => (f vars σ).bind fun p => match p.2[c]? with
  | some (.cell _) => some (.next, vars, p.2.set c (.cell (some p.1)))
  | _ => none
theorem ExOK.asgC {c : Nat} {f : Ev} {y : Str} {x : Expr} {p q : Pos} (hi : fi.ci = c) (hk : fi.scope.names.lookup y = some .cell) (hc : ∀ L, ∃ a, (fi.cl L).lookup y = some a) (hn : noComp x = true) (hf : EvOK fi d f x) : ExOK fi d (xAsgC c f) (.Assign [.Name y p] x q) := by
  subst hi
  intro prog w os h₀ A ρ σ h L m vars vars' a σ' B C ok S e
  unfold xAsgC at e
  obtain ⟨⟨v1, σ₁⟩, e1, e⟩ := Option.bind_eq_some_iff.mp e
  dsimp only at e
  split at e
  · rename_i u0 qq
    cases e
    rw [exec_Assign_Name _ _ _ _ _ (swaps_no hn)]
    refine T.bind (T.standAt (T.bind (T.mono (hf B C ok S e1) fun v h' k => ?_)))
    obtain ⟨ρ₁, x1, R1, r1⟩ := k
    have S1 := S.step x1 R1
    obtain ⟨c, hc⟩ := hc L
    have hr := S1.cells y c hc
    obtain ⟨o, ho, u, hu, _⟩ := R1.get qq hr
    refine T.bind (T.standAt (T.bind (T.bindName (T.any fun s e g o' => ?_))))
    subst e
    refine wpAny_storeName_cell (env := fi.env L) ok.kind hk hc ⟨o, ho, hu⟩ fun h2 hcell hs => ⟨g, o', ?_⟩
    obtain ⟨o2, ho2, hd2⟩ := hcell
    have R2 := R1.turn (o := o) hr qq rfl ho2 hs (ao' := .cell (some v1)) ⟨some v, hd2, v, rfl, r1⟩
    have x2 := Ext.turn (List.mem_of_getElem? hr) hs
    exact T.pure ⟨ρ₁, m, ((x1.trans x2).toL S.out), S1.step x2 R2, rfl⟩
  · cases e
end
/-- the letters of a text -/
noncomputable def glyphs : List Str := ["m", "ü", "\x00", " "]
noncomputable def glyphAt (X : Int) (i : Nat) : Str := glyphs.getD ((X.fdiv (4 ^ i)).fmod 4).toNat ""
noncomputable def textLen (X : Int) : Nat := ((X.fdiv 5).fmod 9).toNat
noncomputable def textOf (X : Int) : Str := PySem.Txt.join "" ((List.range (textLen X)).map (glyphAt X))
noncomputable abbrev eltE (p1 p2 p3 p4 p5 p6 p7 p8 p9 p10 p11 p12 p13 : Pos) : Expr :=
  .Subscript (.List [.Constant (.str "m") 0 p1, .Constant (.str "ü") 0 p2, .Constant (.str "\x00") 0 p3, .Constant (.str " ") 0 p4] p5)
    (.BinOp (.BinOp (.Name "x" p6) .FloorDiv (.BinOp (.Constant (.int 4) 0 p7) .Pow (.Name "n" p8) p9) p10) .Mod (.Constant (.int 4) 0 p11) p12) p13
theorem four_small {k : Nat} (h : k ≤ 8) : ((4 : Int) ^ k).natAbs < 1073741824 ∧ (4 : Int) ^ k ≠ 0 := by
  have : ∀ k, k ≤ 8 → ((4 : Int) ^ k).natAbs < 1073741824 ∧ (4 : Int) ^ k ≠ 0 := by decide
  exact this k h
theorem fmod4 (z : Int) : 0 ≤ z.fmod 4 ∧ z.fmod 4 < 4 := ⟨Int.fmod_nonneg_of_pos z (by decide), Int.fmod_lt_of_pos z (by decide)⟩
theorem subTail_wp {prog : Program} {w : World} {A : Around} {E : Value → Shared → Prop} {s : Shared} {value slice : Expr} {o i : Value} {Ty id : String} {Q : Value → Shared → Prop} (hT : s.TypeIs o Ty)
    (hl : typeLookup (.type Ty) "__getitem__" = pure (some (.builtin id))) (h : wpAny (model prog w) A (getItem o i) Q E s)
    (hs : subscripted slice false o i = operate [o, i] (getItem o i) := by with_unfolding_all rfl) :
    wpAny (model prog w) A (subscriptTail value slice o i) Q E s := by
  unfold subscriptTail
  refine wpAny_bind ?_
  rw [getitemInPython_of_ne hT.not_modules]
  refine wpAny_bind (wpAny_specialOf hT hl ?_)
  have fin : wpAny (model prog w) A (subscripted slice false o i) (fun r s₃ => wpAny (model prog w) A (letTemporaryGo value o r >>= fun _ => pure r) Q E s₃) E s := by
    rw [hs]
    exact wpAny_operating (wpAny_mono h (fun r s₃ h₃ => wpAny_bind (wpAny_letTemporaryGo (wpAny_pure h₃))) fun _ _ x => x)
  exact wpAny_pure (wpAny_bind fin)
theorem elt_wp {prog : Program} {w : World} {A : Around} {E : Value → Shared → Prop} {env : Env} {s : Shared} {c : Addr} {m : Str → Option Value} {X : Int} {k : Nat} {t u : Tok} {p1 p2 p3 p4 p5 p6 p7 p8 p9 p10 p11 p12 p13 : Pos}
    (hf : env.scope.kind = .function) (hx : env.kindOf ("x" : Str) = some .cell) (hc : env.cells.lookup ("x" : Str) = some c) (hv : s.heap.IsCell c (some (.int X t))) (hn : env.kindOf ("n" : Str) = some .local) (hm : s.heap.Ns env.locals m) (hi : m ("n" : Str) = some (.int (k : Int) u)) (hk : k ≤ 8) :
    wpAny (model prog w) A (eval (eltE p1 p2 p3 p4 p5 p6 p7 p8 p9 p10 p11 p12 p13) env) (fun y s' => (∃ t, y = .str (glyphAt X k) t) ∧ PySem.Keeps s s') E s := by
  refine Subscript_ (wpAny_List ?_)
  refine Calls.spliced_cons (wpAny_mkText (Calls.spliced_cons (wpAny_mkText (Calls.spliced_cons (wpAny_mkText (Calls.spliced_cons (wpAny_mkText (Calls.spliced_nil ⟨by rw [sizeLine_eq]; simp, ?_⟩))))))))
  have kp : ∀ b o, s.heap.get? b = some o → (s.heap.push { cls := .type "list", data := .seq [Value.str "m" s.toks, Value.str "ü" (s.toks + 1), Value.str "\x00" (s.toks + 1 + 1), Value.str " " (s.toks + 1 + 1 + 1)].toArray }).get? b = some o := fun b o e => Heap.get?_push_of_some _ e
  refine wpAny_BinOp (wpAny_BinOp (wpAny_Name (wpAny_loadName_cell hf hx hc (hv.keeps kp) (wpAny_BinOp (wpAny_mkInt (wpAny_Name (wpAny_loadName_local hf hn (hm.keeps kp) hi ?_) (by decide))))) (by decide)))
  obtain ⟨f1, f2⟩ := four_small hk
  refine pow_int (by lia) ?_ ?_
  · have h1 := bits_small (x := 4) (by decide)
    have h4 : (Builtin.Int.intBits 4 : Int) * (k : Int) ≤ 64 * 1000 := Int.mul_le_mul (by lia) (by lia) (by lia) (by lia)
    lia
  · dsimp only
    have ek : (k : Int).toNat = k := by simp
    rw [ek]
    have hg : glyphAt X k = glyphs.getD ((X.fdiv (4 ^ k)).fmod 4).toNat "" := rfl
    generalize hz : (4 : Int) ^ k = z at f1 f2 hg ⊢
    refine floordiv_int f2 (wpAny_mkInt ?_) (.inl (PyProof.noPylong_small f1))
    refine mod_int' (by decide) ?_
    obtain ⟨g1, g2⟩ := fmod4 (X.fdiv z)
    generalize (X.fdiv z).fmod 4 = j at g1 g2 hg ⊢
    dsimp only
    have hl : ∀ tk, (({ s with heap := s.heap.push { cls := .type "list", data := .seq [Value.str "m" s.toks, Value.str "ü" (s.toks + 1), Value.str "\x00" (s.toks + 1 + 1), Value.str " " (s.toks + 1 + 1 + 1)].toArray }, toks := tk } : Shared).heap.IsList s.heap.objs.size [Value.str "m" s.toks, Value.str "ü" (s.toks + 1), Value.str "\x00" (s.toks + 1 + 1), Value.str " " (s.toks + 1 + 1 + 1)].toArray) := fun tk =>
      ⟨_, Heap.get?_push_size _ rfl, rfl, _, rfl⟩
    have hj : j = 0 ∨ j = 1 ∨ j = 2 ∨ j = 3 := by lia
    rcases hj with rfl | rfl | rfl | rfl
    all_goals
      refine subTail_wp (hl _).typeIs list_getitem_lookup ?_
      refine wpAny_getItem_list (hl _) (by decide) (by decide) rfl ⟨⟨_, by rw [hg]; rfl⟩, _, _, rfl, kp⟩
noncomputable abbrev iterE (q0 q1 q2 q3 q4 q5 q6 : Pos) : Expr :=
  .Call (.Name "range" q0) [.BinOp (.BinOp (.Name "x" q1) .FloorDiv (.Constant (.int 5) 0 q2) q3) .Mod (.Constant (.int 9) 0 q4) q5] [] q6
theorem paired_rel {ρ : List Addr} {X : Int} : ∀ {vs ys : List Value} (a : Nat), PySem.Paired (fun v y => ∃ (i : Nat) (t u : Tok), v = Value.int (i : Int) t ∧ y = Value.str (glyphAt X i) u) vs ys → (∀ (j : Nat) (v : Value), vs[j]? = some v → ∃ t, v = Value.int ((a + j : Nat) : Int) t) →
    VRels ρ ((List.range' a vs.length).map fun i => AV.str (glyphAt X i)) ys
  | _, _, _, .nil, _ => trivial
  | _ :: vs, _ :: ys, a, .cons h r, k => by
    obtain ⟨i, t, u, e1, e2⟩ := h
    obtain ⟨t', e3⟩ := k 0 _ rfl
    rw [e1] at e3
    obtain ⟨e4, _⟩ := Value.int.inj e3
    have hi : i = a := by have e5 : (i : Int) = ((a + 0 : Nat) : Int) := e4; lia
    subst hi
    refine ⟨⟨u, e2⟩, ?_⟩
    exact paired_rel (i + 1) r fun j v hv => by
      obtain ⟨t, ht⟩ := k (j + 1) v hv
      exact ⟨t, by rw [ht]; congr 1; lia⟩
/-- the row of the letters -/
noncomputable def eLetters (c : Nat) : Ev := fun _ σ => match σ[c]? with
  | some (.cell (some (.int X))) => some (.obj σ.length, σ ++ [.list false ((List.range (textLen X)).map fun i => .str (glyphAt X i))])
  | _ => none
section
variable {fi : FI} {d : Nat}
theorem EvOK.letters {c : Nat} {scope : Scope} {px pos p1 p2 p3 p4 p5 p6 p7 p8 p9 p10 p11 p12 p13 q0 q1 q2 q3 q4 q5 q6 : Pos} (hi : fi.ci = c) (hk : fi.scope.names.lookup ("x" : Str) = some .cell) (hc : ∀ L, ∃ a, fi.cl L = [(("x" : Str), a)])
    (hr : EvOK fi d (eSt (.type "range")) (.Name "range" q0)) (hclos : ∀ L, closureFor scope (fi.env L) = pure (fi.cl L)) (hcell : ∀ y ∈ scope.names, y.2 ≠ .cell) (hkind : scope.kind = .function)
    (hnames : ∀ y ∈ scope.names, y.2 = .local → scope.names.lookup y.1 = some .local) (hx : scope.names.lookup ("n" : Str) = some .local) (hrel : ∀ L, (relabel scope (fi.env L)).names.lookup ("x" : Str) = some .cell) :
    EvOK fi d (eLetters c) (.ListComp (eltE p1 p2 p3 p4 p5 p6 p7 p8 p9 p10 p11 p12 p13) [⟨.Name "n" px, iterE q0 q1 q2 q3 q4 q5 q6, [], 0⟩] scope pos) := by
  have hcl' : ∀ L, ∃ a, (fi.cl L).lookup ("x" : Str) = some a := fun L => by
    obtain ⟨a, e⟩ := hc L
    rw [e]; exact ⟨a, by kernel_rfl⟩
  have hxe : ∀ p, EvOK fi d (eCell c) (.Name "x" p) := fun p => EvOK.cell hi hk hcl' (by decide)
  intro prog w os h₀ A ρ σ h L m vars a σ' B C ok S e
  unfold eLetters at e
  split at e
  · rename_i X q
    cases e
    have e1 : evs [eBin mMod (eBin mFDiv (eCell c) (eConst (.int 5))) (eConst (.int 9))] vars σ = some ([.int ((X.fdiv 5).fmod 9)], σ) := by
      simp [evs, eBin, eCell, q, eConst, pure2, fInt2]
    rw [eval_ListComp]
    show T _ _ _ (eval (iterE q0 q1 q2 q3 q4 q5 q6) (fi.env L) >>= fun xv => comprehension (.ListComp (eltE p1 p2 p3 p4 p5 p6 p7 p8 p9 p10 p11 p12 p13) [⟨.Name "n" px, iterE q0 q1 q2 q3 q4 q5 q6, [], 0⟩] scope pos) scope (fi.env L) (firstIterPos [⟨.Name "n" px, iterE q0 q1 q2 q3 q4 q5 q6, [], 0⟩] pos) (newList []) false (pure xv)) _ _
    refine T.bind (T.callName (fs := [eBin mMod (eBin mFDiv (eCell c) (eConst (.int 5))) (eConst (.int 9))]) hr ⟨EvOK.bin opMod (EvOK.bin opFDiv (hxe _) EvOK.int) EvOK.int, rfl, trivial⟩ B C ok S e1 fun vs ρ₁ h₁ x1 R1 r1 => ?_)
    obtain ⟨v, rfl, r2⟩ := vrels1 r1
    obtain ⟨t, rfl⟩ := r2
    have S1 := S.step x1 R1
    have n0 : 0 ≤ (X.fdiv 5).fmod 9 := Int.fmod_nonneg_of_pos _ (by decide)
    have n1 : (X.fdiv 5).fmod 9 < 9 := Int.fmod_lt_of_pos _ (by decide)
    have hnn : (X.fdiv 5).fmod 9 = (textLen X : Int) := by unfold textLen; lia
    have hn8 : textLen X < 9 := by unfold textLen; lia
    rw [hnn]
    generalize hgn : textLen X = n at hn8 hnn ⊢
    refine T.any fun s e g o' => ?_
    subst e
    refine call_range_1 ⟨g, o', ?_⟩
    have x2 := x1.trans (Ext.garbage (ρ := ρ₁) { cls := .type "range", data := .fields #[.int 0 s.toks, .int n t, .int 1 (s.toks + 1)] })
    have R2 := R1.garbage { cls := .type "range", data := .fields #[.int 0 s.toks, .int n t, .int 1 (s.toks + 1)] }
    generalize hh2 : s.heap.push { cls := .type "range", data := .fields #[.int 0 s.toks, .int n t, .int 1 (s.toks + 1)] } = h2 at x2 R2 ⊢
    have hrg : IsRange h2 s.heap.objs.size 0 n 1 s.toks t (s.toks + 1) := hh2 ▸ IsRange.new ..
    have hsize : Builtin.Range.rangeSize 0 n 1 = (n : Int) := by
      unfold Builtin.Range.rangeSize
      simp
      lia
    have S2 := S.step x2 R2
    obtain ⟨ca, hca⟩ := hc L
    have hcx : (fi.cl L).lookup ("x" : Str) = some ca := by rw [hca]; kernel_rfl
    have hrc := S2.cells ("x" : Str) ca hcx
    subst hi
    obtain ⟨oc, hoc, u, hu, vx, rfl, tx, rfl⟩ := R2.get q hrc
    refine T.any fun s2 e2 g2 o2 => ?_
    refine wpAny_comprehension_free (e := .ListComp (eltE p1 p2 p3 p4 p5 p6 p7 p8 p9 p10 p11 p12 p13) [⟨.Name "n" px, iterE q0 q1 q2 q3 q4 q5 q6, [], 0⟩] scope pos) (use := Option.none) (g := ⟨.Name "n" px, iterE q0 q1 q2 q3 q4 q5 q6, [], 0⟩) (gs := []) (Q := fun v s' => s'.gens = #[] ∧ s'.os = os ∧ VP h₀ ρ h (.obj σ.length) (σ ++ [.list false ((List.range n).map fun i => .str (glyphAt X i))]) v s'.heap) (by rfl) (fun _ => by rfl) (hclos L) hkind hnames (wpAny_pure (wpAny_pyIter_range (by rw [e2]; exact hrg) ?_ ?_))
    · unfold Builtin.Range.small
      rw [hsize]
      simp [Builtin.Range.rangeFitsLong]
      lia
    · rw [e2, hsize]
      have fresh : ∀ b, h2.get? b ≠ Option.none → b ≠ h2.objs.size := fun b hb q => hb (by rw [q]; exact none_of_size h2)
      generalize hh3 : h2.push { cls := .type "range_iterator", data := .fields #[rawInt 0, rawInt (n : Int), rawInt 1] } = h3
      have k3 : ∀ b o, h2.get? b = some o → h3.get? b = some o := fun b o e => hh3 ▸ Heap.get?_push_of_some _ e
      refine comp_block_walkC (RR := fun acc C => compPost (model prog w) A _ Option.none _ acc C) (Walks.range C.handled h2.objs.size 0 1 n).bound (by rw [sizeLine_eq]; lia) (fun _ => true)
        (fun v y => ∃ (i : Nat) (t u : Tok), v = Value.int (i : Int) t ∧ y = Value.str (glyphAt X i) u) hcell hkind hx ?_ ?_ ⟨?_, ?_⟩ ?_
      · show IsRangeIter h3 _ _ _ _
        rw [← hh3]
        simpa using Heap.get?_push_size _ rfl
      · intro b hb
        rw [List.mem_singleton.mp hb]
        show _ < h3.objs.size
        rw [← hh3, Heap.size_push]
        exact Nat.lt_succ_self _
      · intro C' i v s₃ m₃ E' hC hP hn' hm hk' _
        exact wpAny_tests_nil ⟨rfl, _, _, rfl, fun _ _ e => e⟩
      · intro C' i v s₃ m₃ E' hC hP hp hn' hm hk' _
        obtain ⟨hlt, tv, rfl⟩ := hP
        have eqi : (0 : Int) + (i : Nat) * 1 = (i : Int) := by lia
        rw [eqi] at hm ⊢
        refine wpAny_mono (elt_wp (c := ca) (m := m₃) (X := X) (k := i) (t := tx) (u := tv) hkind (hrel L) hcx ⟨oc, hk' ca oc (by simpa using fresh ca (by rw [hoc]; exact nofun)) (k3 _ _ hoc), hu⟩ (lookup_relabel_local hx) hn' hm (by lia)) (fun y s₄ h₄ => ?_) fun _ _ e => e
        obtain ⟨⟨ty, rfl⟩, kp⟩ := h₄
        exact ⟨⟨i, tv, ty, rfl, rfl⟩, kp⟩
      · intro D C' h' tk m' ys vs hD hC hDC hn' hl hpl hlen hP hF hk'
        refine ⟨m', hn', fun h'' hs'' => ⟨g2, o2, ?_⟩⟩
        have kk : ∀ b o, h2.get? b = some o → h''.get? b = some o := fun b o e => hs''.extBut b o (by rintro rfl; rw [k3 _ _ e] at hC; cases hC) (hk' b o (by simpa using fresh b (by rw [e]; exact nofun)) (k3 _ _ e))
        have hD2 : h2.get? D = Option.none := by
          cases e : h2.get? D with
          | none => rfl
          | some o => rw [k3 _ _ e] at hD; cases hD
        obtain ⟨oD, hoD, hcD, nD, hdD⟩ := hl.extBut hs''.extBut hDC
        have hfilt : vs.filter (fun _ => true) = vs := by simp
        rw [hfilt] at hF
        have rel := paired_rel (ρ := ρ₁ ++ [D]) 0 hF fun j v hv => by
          obtain ⟨hj, tv, e⟩ := hP j v hv
          exact ⟨tv, by rw [e]; congr 1; lia⟩
        rw [hlen, ← List.range_eq_range'] at rel
        exact ⟨ρ₁ ++ [D], x2.trans (Ext.add kk hD2), R2.add kk hoD ⟨hcD, fun q => (nomatch q), nD, ys.toList, by rw [hdD, Array.toArray_toList], rel⟩ hD2 (fun q => (nomatch q)), D, by rw [← R2.len, List.getElem?_append_right (Nat.le_refl _)]; simp, rfl⟩
  · cases e
/-- ''.join -/
noncomputable def strsOf : List AV → Option (List Str)
  | [] => some []
  | .str s :: r => (strsOf r).map (s :: ·)
  | _ :: _ => none
theorem strs_rel {ρ : List Addr} : ∀ {xs : List AV} {vs : List Value} {ts : List Str}, VRels ρ xs vs → strsOf xs = some ts → ∃ l : List (Str × Tok), vs = strValues l ∧ l.map (·.1) = ts
  | [], [], _, _, e => by cases e; exact ⟨[], rfl, rfl⟩
  | .str i :: xs, v :: vs, _, h, e => by
    unfold strsOf at e
    obtain ⟨r, e1, e⟩ := Option.map_eq_some_iff.mp e
    cases e
    obtain ⟨t, rfl⟩ := h.1
    obtain ⟨l, rfl, rfl⟩ := strs_rel h.2 e1
    exact ⟨(i, t) :: l, rfl, rfl⟩
  | .none :: _, _, _, _, e | .bool _ :: _, _, _, _, e | .int _ :: _, _, _, _, e | .bytes _ :: _, _, _, _, e | .obj _ :: _, _, _, _, e | .st _ :: _, _, _, _, e => by cases e
noncomputable def fJoin : Fn := fun args σ => match args with
  | [.str s, .obj i] => match σ[i]? with
    | some (.list _ xs) => (strsOf xs).bind fun ts => if JoinOk s ts = true then some (.str (PySem.Txt.join s ts), σ) else none
    | _ => none
  | _ => none
theorem methJoin : MethOK d "join" selStr (.builtin "str.join") true := by
  intro prog w os h₀ A ρ σ h a v pl B C R r e
  unfold selStr at e
  split at e
  · obtain ⟨t, rfl⟩ := r
    refine T.any fun s e g o => ?_
    subst e
    exact getMethod_builtin (typeIs_str s _ t) PySem.F.plainAttrs_str PySem.F.slot_str_join PySem.F.type_str_join (fun b e => by cases e) ⟨g, o, rfl, rfl⟩
  · cases e
theorem okJoin : FnOK d (.builtin "str.join") [] fJoin := FnOK.of fun {prog w os h₀ A ρ σ h args vs c σ'} B C R r e => by
  unfold fJoin at e
  split at e
  · split at e
    · rename_i xs q
      obtain ⟨ts, e1, e⟩ := Option.bind_eq_some_iff.mp e
      split at e
      · rename_i hj
        cases e
        obtain ⟨v, u, rfl, r1, r2⟩ := vrels2 r
        obtain ⟨t, rfl⟩ := r1
        obtain ⟨x, hx, rfl⟩ := r2
        obtain ⟨o, ho, hc, _, n, us, hd, ru⟩ := R.get q hx
        obtain ⟨l, rfl, hl⟩ := strs_rel ru e1
        refine T.any fun s e g o' => ?_
        subst e
        exact SC.join (l := l) ⟨o, ho, hc, n, hd⟩ hl hj fun t' k => ⟨g, o', VP.here R rfl ⟨t', rfl⟩⟩
      · cases e
    · cases e
  · cases e
end
end Mine
set_option maxRecDepth 100000
namespace Mine
section
variable {prog : Program} {w : World} {A : Around} {os : OsState} {h : Heap}
/-- a call of a def with cells -/
theorem CT.callFnC {a : Addr} {args : Args} {o : Obj} {fd : FuncData} {body : List Stmt} {binds : List (Str × Value)} {Q : Flow → Heap → Prop} (hroom : A.depth < recursionLimit) (hlim : h.NoLimit) (ho : h.get? a = some o) (hd' : o.data = .func fd)
    (hco : fd.scope.isCoroutine = false) (hgen : fd.scope.isGenerator = false) (hk : fd.scope.kind = .function) (hbody : fd.body = .stmts body) (hcd : h.CodeRec fd.code fd.qualname) (hclo : fd.closure = [])
    (hb : T (model prog w) os A.in1 (bindArgs fd args) h fun b h' => b = binds ∧ h' = h)
    (hkind : ∀ x ∈ binds, fd.scope.names.lookup x.1 = some .local ∨ (fd.scope.names.lookup x.1 = some .cell ∧ ((cellsFrom (h.objs.size + 1) fd.scope.names []).lookup x.1).isSome = true))
    (k : ∀ env h₁, env = newEnv fd.scope h.objs.size fd.globals (cellsFrom (h.objs.size + 1) fd.scope.names []) (fd.qualname ++ ".<locals>.") (some a) fd.code none fd.builtins →
      h₁.Ns h.objs.size (bindL env.kindOf binds fun _ => none) → (∀ n c, env.cells.lookup n = some c → h₁.IsCell c (bindC env.kindOf binds (fun _ => none) n)) → (∀ b o, h.get? b = some o → h₁.get? b = some o) →
      T (model prog w) os (A.deeper env) (execs body env) h₁ fun f h' => Q (.ret (match f with | .ret v => v | _ => .none)) h') :
    CT (model prog w) os A (.call (.ref a) args) h Q := by
  refine CT.tree rfl ?_
  show T _ _ A.in1 (callAny (.ref a) args) _ _
  simp only [callAny]
  refine T.bind (T.load ho ?_)
  obtain ⟨c, oc, vs, tq, hc', hoc, hdc, hq⟩ := hcd
  simp only [hd', callFunction, hco, hgen, hbody, hc', hclo]
  rw [hc'] at k
  refine T.bind (m := PySem.field (.ref c) 1) (T.field hoc hdc hq (T.bind (T.pure ?_)))
  refine T.bind (T.mono hb fun b h' q => ?_)
  obtain ⟨rfl, rfl⟩ := q
  refine T.bind (T.any fun s e g o' => ?_)
  subst e
  refine wpAny_newFunctionEnv_cells hk hkind fun env he s' x => ?_
  obtain ⟨h₁, tk, rfl, keep⟩ := x.done
  refine ⟨g, o', ?_⟩
  have hl : env.locals = s.heap.objs.size := by rw [he]; rfl
  refine T.bind (T.any fun s' e g o' => ?_)
  subst e
  refine wpAny_enterFrame (hlim.keeps keep) hroom ⟨g, o', T.pure ⟨rfl, CT.func (k env _ he (hl ▸ x.toInCall.ns) x.cell keep)⟩⟩
end
/-- law -/
theorem FnCT.law {fi : FI} {d : Nat} {params : Arguments} {body : List Stmt} {f : Ex} {y xc : Str}
    (hat : ∃ oc od name doc pm an ct osl, ∀ P, (hK P).lookup fi.addr = some ⟨oc, od, .func (fnOf name fi.qual params body fi.scope .none .none doc pm an fi.cd ct), osl⟩)
    (hcode : ∀ P, codeIn (hK P) fi.cd fi.qual = true) (ok : fi.Ok) (hco : fi.scope.isCoroutine = false) (hgen : fi.scope.isGenerator = false)
    (hcf : ∀ n, cellsFrom n fi.scope.names [] = [(xc, n)]) (hcl : ∀ L, fi.cl L = [(xc, L + 1)]) (hci : fi.ci = 1) (hn0 : ∃ r, fi.names = y :: r) (hy : y ≠ xc)
    (hf : ExsOK fi d f body) (hb : ∀ name doc pm an ct v, bindArgs (fnOf name fi.qual params body fi.scope .none .none doc pm an fi.cd ct) ⟨[v], []⟩ = pure [(y, v)])
    {prog : Program} {w : World} {os : OsState} {h₀ : Heap} {A : Around} {x : Addr} {ao : AO} {ox : Obj} {a c : AV} {v : Value} {vars' : Vars} {σ' : AH}
    (B : Base w h₀) (C : Cond (d + 1) A) (hox : h₀.get? x = some ox) (rox : ORel [x] ao ox) (hfix : ao.fixed = true) (big : sysModules < h₀.objs.size) (r : VRel [x] a v) (e : f (startV fi [a]) [ao, .cell none] = some (.ret c, vars', σ')) :
    CT (model prog w) os A (.call (.ref fi.addr) ⟨[v], []⟩) h₀ fun fl h' => (∀ b o, h₀.get? b = some o → h'.get? b = some o) ∧ ∃ u ρ', fl = .ret u ∧ VRel ρ' c u := by
  obtain ⟨oc, od, name, doc, pm, an, ct, osl, hat⟩ := hat
  have X := B.X
  have hlim : h₀.NoLimit := B.lim
  obtain ⟨rest, hn0⟩ := hn0
  have hloc := (ok.loc y (by rw [hn0]; exact .head _)).1
  have CD : ∀ env, Cond d (A.deeper env) := fun env => ⟨by have := C.depth; show A.depth + 1 + 4 * d ≤ 900; lia, by have := C.units; show A.units + 3 + 20 * d ≤ 9000; lia, C.handled, C.guards⟩
  refine CT.callFnC (o := ⟨oc, od, .func (fnOf name fi.qual params body fi.scope .none .none doc pm an fi.cd ct), osl⟩) (binds := [(y, v)]) (by have := C.depth; show A.depth < 1000; lia) hlim (X _ _ (hat _)) rfl hco hgen ok.kind rfl (codeRec_of X (hcode _)) rfl ?_ ?_ ?_
  · rw [hb]; exact T.pure ⟨rfl, rfl⟩
  · intro z hz
    rw [List.mem_singleton.mp hz]
    exact .inl hloc
  · intro env h₁ he hns hcell keep
    have henv : env = fi.env h₀.objs.size := by
      rw [he]
      unfold FI.env
      rw [hcl]
      show newEnv fi.scope h₀.objs.size mainGlobals (cellsFrom (h₀.objs.size + 1) fi.scope.names []) (fi.qual ++ ".<locals>.") (some fi.addr) fi.cd none builtinsNs = _
      rw [hcf]
      rfl
    subst henv
    have hky : (fi.env h₀.objs.size).kindOf y = some .local := hloc
    have hbc : bindC (fi.env h₀.objs.size).kindOf [(y, v)] (fun _ => none) xc = none := by
      show (if (fi.env h₀.objs.size).kindOf y = some .local then (fun _ => none : Str → Option Value) else _) xc = none
      rw [if_pos hky]
    have hbl : bindL (fi.env h₀.objs.size).kindOf [(y, v)] (fun _ => none) = fun z => if z = y then some v else none := by
      show (if (fi.env h₀.objs.size).kindOf y = some .local then _ else _) = _
      rw [if_pos hky]
    rw [hbl] at hns
    obtain ⟨ob, hob, hdob⟩ := hcell xc (h₀.objs.size + 1) (by show (fi.cl h₀.objs.size).lookup xc = _; rw [hcl]; simp)
    rw [hbc] at hdob
    have hnc : h₀.get? (h₀.objs.size + 1) = none := by
      cases q : h₀.get? (h₀.objs.size + 1) with
      | none => rfl
      | some o => exact absurd (Heap.lt_size q) (by simp)
    have hxc : x ≠ h₀.objs.size + 1 := fun q => by rw [q, hnc] at hox; cases hox
    have R1 : Rep h₀ ([x] ++ [h₀.objs.size + 1]) ([ao] ++ [.cell none]) h₁ := by
      refine ⟨rfl, by simpa using hxc, fun i a ao' e1 e2 => ?_, fun i a ao' e1 e2 hm => ?_, big, ⟨h₀.objs.size, Nat.le_refl _, ?_⟩, keep⟩
      · match i, e1, e2 with
        | 0, e1, e2 => cases e1; cases e2; exact ⟨ox, keep _ _ hox, rox.mono⟩
        | 1, e1, e2 => cases e1; cases e2; exact ⟨ob, hob, none, hdob, trivial⟩
      · match i, e1, e2 with
        | 0, e1, e2 => cases e1; cases e2; rw [hfix] at hm; cases hm
        | 1, e1, e2 => cases e1; exact Nat.le_succ _
      · obtain ⟨o, _, _, ho, _⟩ := hns
        rw [ho]; rfl
    have S : FS fi h₀ ([x] ++ [h₀.objs.size + 1]) ([ao] ++ [.cell none]) h₁ h₀.objs.size (fun z => if z = y then some v else none) (startV fi [a]) := by
      refine ⟨R1, ⟨hns, R1.keep, Nat.le_refl _⟩, fun q => ?_, fun i z hz => ?_, fun z b hz => ?_⟩
      · rcases List.mem_append.mp q with q | q
        · have hxs := List.mem_singleton.mp q; exact absurd (Heap.lt_size hox) (by rw [← hxs]; exact Nat.lt_irrefl _)
        · have := List.mem_singleton.mp q
          exact absurd this (by simp)
      · rw [hn0] at hz
        cases i with
        | zero =>
          cases hz
          refine ⟨v, by simp, r.mono⟩
        | succ i =>
          unfold startV
          rw [hn0]
          simp only [List.map_cons, List.map_nil, List.cons_append, List.nil_append, List.getElem?_cons_succ, List.getElem?_replicate]
          split <;> trivial
      · rw [hcl] at hz
        rw [hci]
        simp only [List.lookup] at hz
        split at hz
        · cases hz; rfl
        · cases hz
    refine T.mono (hf B (CD _) ok S e) fun fl' h' k => ?_
    obtain ⟨ρ', m', xl, S', rf⟩ := k
    obtain ⟨u, rfl, ru⟩ := rf
    exact ⟨S'.rep.keep, u, ρ', rfl, ru⟩
end Mine
set_option maxRecDepth 100000
namespace Mine

theorem g__law_made : StaticG "_law_made" (.ref 792) := ⟨fun P => by kernel_rfl, by decide⟩
theorem g__law_level : StaticG "_law_level" (.ref 799) := ⟨fun P => by kernel_rfl, by decide⟩
noncomputable def fi_law : FI := { addr := 804, qual := "law", scope := stScope (topSt 45), cd := .ref 803, names := ["script", "deep", "k", "whole", "before", "a", "b", "inner", "wants", "strange", "number", "text", "great", "finish", "made", "start", "many", "want", "row", "alone"], cl := fun L => [(("x" : Str), L + 1)], ci := 1 }
theorem law_ok : fi_law.Ok := ⟨by kernel_rfl, by decide +kernel, by decide⟩
theorem law_at : ∃ oc od name doc pm an ct osl, ∀ P, (hK P).lookup fi_law.addr = some ⟨oc, od, .func (fnOf name fi_law.qual (stParams (topSt 45)) (stPart (topSt 45)) fi_law.scope .none .none doc pm an fi_law.cd ct), osl⟩ := ⟨.type "function", none, "law", .none, .str "law_bb0043_01" 1419, none, .none, #[], fun P => by kernel_rfl⟩
theorem law_code : ∀ P, codeIn (hK P) fi_law.cd fi_law.qual = true := fun P => by kernel_rfl
theorem law_cl : ∀ L, ∃ a, (fi_law.cl L).lookup ("x" : Str) = some a := fun L => ⟨L + 1, by kernel_rfl⟩
theorem law_x {p : Pos} {d : Nat} : EvOK fi_law d (eCell 1) (.Name "x" p) := EvOK.cell rfl (by kernel_rfl) law_cl (by decide)
noncomputable abbrev lcScope : Scope := { kind := .function, names := [((".0" : Str), .local), (("n" : Str), .local), (("x" : Str), .free)], isGenerator := false, isCoroutine := false, more := [] }
theorem law_letters {d : Nat} {px pos p1 p2 p3 p4 p5 p6 p7 p8 p9 p10 p11 p12 p13 q0 q1 q2 q3 q4 q5 q6 : Pos} : EvOK fi_law d (eLetters 1) (.ListComp (eltE p1 p2 p3 p4 p5 p6 p7 p8 p9 p10 p11 p12 p13) [⟨.Name "n" px, iterE q0 q1 q2 q3 q4 q5 q6, [], 0⟩] lcScope pos) :=
  EvOK.letters rfl (by kernel_rfl) (fun L => ⟨L + 1, rfl⟩) (EvOK.blt b_range (by kernel_rfl)) (fun L => by kernel_rfl) (by decide) rfl (by decide) (by decide) (fun L => by kernel_rfl)
noncomputable def x_law : Ex := (xSeq (xUnp [5, 6] (eCut (eBin fCat (eCut (eVar 0) none (some (eConst (.int 2)))) (eList [(eConst (.int 0)), (eConst (.int 0))])) none (some (eConst (.int 2))))) (xSeq (xAsg 1 (eBin mAdd (eConst (.int 1)) (eBin mMod (eVar 5) (eConst (.int 3))))) (xSeq (xUnpS [7, 8, 9] (eTup [(eBin gItem (eList [(eConst .none), (eConst (.bytes []))]) (eBin mMod (eBin mFDiv (eVar 5) (eConst (.int 3))) (eConst (.int 2)))), (eList []), (eConst (.int 0))])) (xSeq (xFor 2 70 (iRange [(eVar 1)]) (xSeq (xAsgC 1 (eIf (bCmp mLt (eBin mAdd (eVar 2) (eConst (.int 2))) (eCall ([(eVar 0)] ++ []) fLen)) (eBin gItem (eVar 0) (eBin mAdd (eVar 2) (eConst (.int 2)))) (eBin mAdd (eBin mAdd (eBin mAdd (eVar 5) (eBin mMul (eVar 6) (eVar 2))) (eBin mMul (eConst (.int 40)) (eVar 2))) (eConst (.int 7))))) (xSeq (xAsg 10 (eBin gItem (eList [(eBin mSub (eBin mMod (eBin mFDiv (eCell 1) (eConst (.int 8))) (eBin mPow (eConst (.int 2)) (eConst (.int 32)))) (eBin mPow (eConst (.int 2)) (eConst (.int 31)))), (eConst (.int 5))]) (eIf (bCmp mEq (eBin mMod (eCell 1) (eConst (.int 11))) (eConst (.int 0))) (eBin mMod (eBin mFDiv (eCell 1) (eConst (.int 7))) (eConst (.int 2))) (eConst (.int 0))))) (xSeq (xAsg 11 (eIf (bCmp mEq (eBin mMod (eBin mFDiv (eCell 1) (eConst (.int 3))) (eConst (.int 4))) (eConst (.int 3))) (eConst .none) (eMeth (eConst (.str "")) selStr ([(eLetters 1)] ++ []) fJoin))) (xSeq (xAsg 12 (eIf (bCmp mEq (eBin mMod (eCell 1) (eConst (.int 6))) (eConst (.int 5))) (eConst (.int 0)) (eBin mMod (eCell 1) (eBin mPow (eConst (.int 2)) (eConst (.int 64)))))) (xSeq (xAsg 13 (eBin mMod (eBin mAdd (eBin mAdd (eBin mFDiv (eCell 1) (eConst (.int 2))) (eVar 6)) (eVar 2)) (eConst (.int 4)))) (xSeq (xAsg 14 (eCall ([(eVar 10), (eVar 11), (eVar 12), (eVar 7), (eCmp mEq (eBin mMod (eCell 1) (eConst (.int 2))) (eConst (.int 0))), (eVar 13), (eBin gItem (eList [(eConst (.int 0)), (eConst (.int 7)), (eConst (.int 64))]) (eBin mMod (eBin mAdd (eBin mFDiv (eVar 6) (eConst (.int 4))) (eVar 2)) (eConst (.int 3))))] ++ []) f_law_made)) (xSeq (xExpr (eMeth (eVar 8) selList ([(eTup [(eVar 10), (eVar 11), (eVar 12), (eVar 7), (eVar 13), (eVar 9)])] ++ []) fAppend)) (xSeq (xAsg 9 (eIf (bCmp mLt (eVar 2) (eBin mSub (eVar 1) (eConst (.int 1)))) (eBin mMod (eBin mFDiv (eCell 1) (eConst (.int 13))) (eConst (.int 4))) (eConst (.int 0)))) (xSeq (xAsg 7 (eBin mAdd (eVar 14) (eBin fRep (eConst (.bytes [5])) (eVar 9)))) xNil)))))))))) (xSeq (xAsg 3 (eCall ([(eBin mAdd (eBin mAdd (eBin fRep (eConst (.bytes [7])) (eBin mMod (eBin mFDiv (eVar 6) (eConst (.int 12))) (eConst (.int 6)))) (eVar 7)) (eCut (eConst (.bytes [1, 2])) none (some (eBin mMod (eBin mFDiv (eVar 5) (eConst (.int 6))) (eConst (.int 3))))))] ++ []) fBa)) (xSeq (xAsg 4 (eCall ([(eVar 3)] ++ []) fBytes)) (xSeq (xUnpS [15, 16] (eTup [(eBin mMod (eBin mFDiv (eVar 6) (eConst (.int 12))) (eConst (.int 6))), (eCall ([(eVar 7)] ++ []) fLen)])) (xSeq (xFor 2 70 (iRange [(eVar 1)]) (xSeq (xAsg 17 (eBin gItem (eVar 8) (eBin mSub (eBin mSub (eVar 1) (eConst (.int 1))) (eVar 2)))) (xSeq (xAsg 18 (eCall ([(eVar 3), (eVar 15), (eVar 16), (eVar 17)] ++ []) f_law_level)) (xSeq (xAsg 19 (eCall ([(eCut (eVar 3) (some (eVar 15)) (some (eBin mAdd (eVar 15) (eVar 16))))] ++ []) fBytes)) (xSeq (xIf (bOr (bCmp mIs (eVar 18) (eConst .none)) (bCmp mNe (eCall ([(eVar 19), (eConst (.int 0)), (eVar 16), (eVar 17)] ++ []) f_law_level) (eIf (bCmp mNe (eVar 18) (eList [(eConst (.int 0)), (eConst (.int 0))])) (eList [(eBin mSub (eBin gItem (eVar 18) (eConst (.int 0))) (eVar 15)), (eBin gItem (eVar 18) (eConst (.int 1)))]) (eVar 18)))) (xSeq (xRet (eConst (.bool false))) xNil) xNil) (xSeq (xUnpS [15, 16] (eTup [(eBin gItem (eVar 18) (eConst (.int 0))), (eBin mSub (eBin gItem (eVar 18) (eConst (.int 1))) (eBin gItem (eVar 17) (eConst (.int 5))))])) xNil)))))) (xSeq (xRet (eCmp mEq (eCall ([(eVar 3)] ++ []) fBytes) (eVar 4))) xNil)))))))))
set_option maxHeartbeats 4000000 in
theorem body_law : ExsOK fi_law 10 x_law (stPart (topSt 45)) :=
  (ExsOK.cons (ExOK.unp (by rfl) (fun _ _ => rfl) (fun _ => by kernel_rfl) (EvOK.cut (EvOK.bin opCat (EvOK.cut (EvOK.var (by rfl)) OptOK.no (OptOK.so EvOK.int)) (EvOK.list (EvAll.cons EvOK.int (by rfl) (EvAll.cons EvOK.int (by rfl) EvAll.nil)) (by decide))) OptOK.no (OptOK.so EvOK.int))) (ExsOK.cons (ExOK.asg (by rfl) (by rfl) (EvOK.bin opAdd EvOK.int (EvOK.bin opMod (EvOK.var (by rfl)) EvOK.int))) (ExsOK.cons (ExOK.unpS (by rfl) (fun _ _ => rfl) (fun _ => by kernel_rfl) (EvOK.tup (EvAll.cons (EvOK.sub okItem (EvOK.list (EvAll.cons EvOK.none (by rfl) (EvAll.cons EvOK.bytes (by rfl) EvAll.nil)) (by decide)) (EvOK.bin opMod (EvOK.bin opFDiv (EvOK.var (by rfl)) EvOK.int) EvOK.int)) (by rfl) (EvAll.cons (EvOK.list EvAll.nil (by decide)) (by rfl) (EvAll.cons EvOK.int (by rfl) EvAll.nil))) (by decide))) (ExsOK.cons (ExOK.for (by rfl) (IterOK.range (EvOK.blt b_range (by kernel_rfl)) (EvAll.cons (EvOK.var (by rfl)) (by rfl) EvAll.nil)) (ExsOK.cons (ExOK.asgC rfl (by kernel_rfl) law_cl (by rfl) (EvOK.ite (BoOK.cmp opLt (EvOK.bin opAdd (EvOK.var (by rfl)) EvOK.int) (EvOK.call (EvOK.blt b_len (by kernel_rfl)) KeepsOK.builtin okLen (EvAll.cons (EvOK.var (by rfl)) (by rfl) EvAll.nil) EvKw.nil) (by rfl)) (EvOK.sub okItem (EvOK.var (by rfl)) (EvOK.bin opAdd (EvOK.var (by rfl)) EvOK.int)) (EvOK.bin opAdd (EvOK.bin opAdd (EvOK.bin opAdd (EvOK.var (by rfl)) (EvOK.bin opMul (EvOK.var (by rfl)) (EvOK.var (by rfl)))) (EvOK.bin opMul EvOK.int (EvOK.var (by rfl)))) EvOK.int))) (ExsOK.cons (ExOK.asg (by rfl) (by rfl) (EvOK.sub okItem (EvOK.list (EvAll.cons (EvOK.bin opSub (EvOK.bin opMod (EvOK.bin opFDiv law_x EvOK.int) (EvOK.bin opPow EvOK.int EvOK.int)) (EvOK.bin opPow EvOK.int EvOK.int)) (by rfl) (EvAll.cons EvOK.int (by rfl) EvAll.nil)) (by decide)) (EvOK.ite (BoOK.cmp opEq (EvOK.bin opMod law_x EvOK.int) EvOK.int (by rfl)) (EvOK.bin opMod (EvOK.bin opFDiv law_x EvOK.int) EvOK.int) EvOK.int))) (ExsOK.cons (ExOK.asg (by rfl) (by rfl) (EvOK.ite (BoOK.cmp opEq (EvOK.bin opMod (EvOK.bin opFDiv law_x EvOK.int) EvOK.int) EvOK.int (by rfl)) EvOK.none (EvOK.meth EvOK.str (by rfl) methJoin selStr_true KeepsOK.builtin okJoin (EvAll.cons law_letters (by rfl) EvAll.nil) EvKw.nil (by rfl) (by decide)))) (ExsOK.cons (ExOK.asg (by rfl) (by rfl) (EvOK.ite (BoOK.cmp opEq (EvOK.bin opMod law_x EvOK.int) EvOK.int (by rfl)) EvOK.int (EvOK.bin opMod law_x (EvOK.bin opPow EvOK.int EvOK.int)))) (ExsOK.cons (ExOK.asg (by rfl) (by rfl) (EvOK.bin opMod (EvOK.bin opAdd (EvOK.bin opAdd (EvOK.bin opFDiv law_x EvOK.int) (EvOK.var (by rfl))) (EvOK.var (by rfl))) EvOK.int)) (ExsOK.cons (ExOK.asg (by rfl) (by rfl) (EvOK.call (EvOK.gbl g__law_made (by kernel_rfl)) (KeepsOK.ref fun P => by kernel_rfl) (ok_law_made.le (by decide)) (EvAll.cons (EvOK.var (by rfl)) (by rfl) (EvAll.cons (EvOK.var (by rfl)) (by rfl) (EvAll.cons (EvOK.var (by rfl)) (by rfl) (EvAll.cons (EvOK.var (by rfl)) (by rfl) (EvAll.cons (EvOK.cmp opEq (EvOK.bin opMod law_x EvOK.int) EvOK.int (by rfl)) (by rfl) (EvAll.cons (EvOK.var (by rfl)) (by rfl) (EvAll.cons (EvOK.sub okItem (EvOK.list (EvAll.cons EvOK.int (by rfl) (EvAll.cons EvOK.int (by rfl) (EvAll.cons EvOK.int (by rfl) EvAll.nil))) (by decide)) (EvOK.bin opMod (EvOK.bin opAdd (EvOK.bin opFDiv (EvOK.var (by rfl)) EvOK.int) (EvOK.var (by rfl))) EvOK.int)) (by rfl) EvAll.nil))))))) EvKw.nil)) (ExsOK.cons (ExOK.expr (by rfl) (EvOK.meth (EvOK.var (by rfl)) (by rfl) methAppend selList_true KeepsOK.builtin okAppend (EvAll.cons (EvOK.tup (EvAll.cons (EvOK.var (by rfl)) (by rfl) (EvAll.cons (EvOK.var (by rfl)) (by rfl) (EvAll.cons (EvOK.var (by rfl)) (by rfl) (EvAll.cons (EvOK.var (by rfl)) (by rfl) (EvAll.cons (EvOK.var (by rfl)) (by rfl) (EvAll.cons (EvOK.var (by rfl)) (by rfl) EvAll.nil)))))) (by decide)) (by rfl) EvAll.nil) EvKw.nil (by rfl) (by decide))) (ExsOK.cons (ExOK.asg (by rfl) (by rfl) (EvOK.ite (BoOK.cmp opLt (EvOK.var (by rfl)) (EvOK.bin opSub (EvOK.var (by rfl)) EvOK.int) (by rfl)) (EvOK.bin opMod (EvOK.bin opFDiv law_x EvOK.int) EvOK.int) EvOK.int)) (ExsOK.cons (ExOK.asg (by rfl) (by rfl) (EvOK.bin opAdd (EvOK.var (by rfl)) (EvOK.bin opRep EvOK.bytes (EvOK.var (by rfl))))) ExsOK.nil))))))))) (fun _ _ => rfl)) (ExsOK.cons (ExOK.asg (by rfl) (by rfl) (EvOK.call (EvOK.blt b_bytearray (by kernel_rfl)) KeepsOK.type okBa (EvAll.cons (EvOK.bin opAdd (EvOK.bin opAdd (EvOK.bin opRep EvOK.bytes (EvOK.bin opMod (EvOK.bin opFDiv (EvOK.var (by rfl)) EvOK.int) EvOK.int)) (EvOK.var (by rfl))) (EvOK.cut EvOK.bytes OptOK.no (OptOK.so (EvOK.bin opMod (EvOK.bin opFDiv (EvOK.var (by rfl)) EvOK.int) EvOK.int)))) (by rfl) EvAll.nil) EvKw.nil)) (ExsOK.cons (ExOK.asg (by rfl) (by rfl) (EvOK.call (EvOK.blt b_bytes (by kernel_rfl)) KeepsOK.type okBytes (EvAll.cons (EvOK.var (by rfl)) (by rfl) EvAll.nil) EvKw.nil)) (ExsOK.cons (ExOK.unpS (by rfl) (fun _ _ => rfl) (fun _ => by kernel_rfl) (EvOK.tup (EvAll.cons (EvOK.bin opMod (EvOK.bin opFDiv (EvOK.var (by rfl)) EvOK.int) EvOK.int) (by rfl) (EvAll.cons (EvOK.call (EvOK.blt b_len (by kernel_rfl)) KeepsOK.builtin okLen (EvAll.cons (EvOK.var (by rfl)) (by rfl) EvAll.nil) EvKw.nil) (by rfl) EvAll.nil)) (by decide))) (ExsOK.cons (ExOK.for (by rfl) (IterOK.range (EvOK.blt b_range (by kernel_rfl)) (EvAll.cons (EvOK.var (by rfl)) (by rfl) EvAll.nil)) (ExsOK.cons (ExOK.asg (by rfl) (by rfl) (EvOK.sub okItem (EvOK.var (by rfl)) (EvOK.bin opSub (EvOK.bin opSub (EvOK.var (by rfl)) EvOK.int) (EvOK.var (by rfl))))) (ExsOK.cons (ExOK.asg (by rfl) (by rfl) (EvOK.call (EvOK.gbl g__law_level (by kernel_rfl)) (KeepsOK.ref fun P => by kernel_rfl) (ok_law_level.le (by decide)) (EvAll.cons (EvOK.var (by rfl)) (by rfl) (EvAll.cons (EvOK.var (by rfl)) (by rfl) (EvAll.cons (EvOK.var (by rfl)) (by rfl) (EvAll.cons (EvOK.var (by rfl)) (by rfl) EvAll.nil)))) EvKw.nil)) (ExsOK.cons (ExOK.asg (by rfl) (by rfl) (EvOK.call (EvOK.blt b_bytes (by kernel_rfl)) KeepsOK.type okBytes (EvAll.cons (EvOK.cut (EvOK.var (by rfl)) (OptOK.so (EvOK.var (by rfl))) (OptOK.so (EvOK.bin opAdd (EvOK.var (by rfl)) (EvOK.var (by rfl))))) (by rfl) EvAll.nil) EvKw.nil)) (ExsOK.cons (ExOK.ite (BoOK.or (BoOK.cmp opIs (EvOK.var (by rfl)) EvOK.none (by rfl)) (BoOK.cmp opNe (EvOK.call (EvOK.gbl g__law_level (by kernel_rfl)) (KeepsOK.ref fun P => by kernel_rfl) (ok_law_level.le (by decide)) (EvAll.cons (EvOK.var (by rfl)) (by rfl) (EvAll.cons EvOK.int (by rfl) (EvAll.cons (EvOK.var (by rfl)) (by rfl) (EvAll.cons (EvOK.var (by rfl)) (by rfl) EvAll.nil)))) EvKw.nil) (EvOK.ite (BoOK.cmp opNe (EvOK.var (by rfl)) (EvOK.list (EvAll.cons EvOK.int (by rfl) (EvAll.cons EvOK.int (by rfl) EvAll.nil)) (by decide)) (by rfl)) (EvOK.list (EvAll.cons (EvOK.bin opSub (EvOK.sub okItem (EvOK.var (by rfl)) EvOK.int) (EvOK.var (by rfl))) (by rfl) (EvAll.cons (EvOK.sub okItem (EvOK.var (by rfl)) EvOK.int) (by rfl) EvAll.nil)) (by decide)) (EvOK.var (by rfl))) (by rfl))) (ExsOK.cons (ExOK.ret EvOK.bool) ExsOK.nil) ExsOK.nil) (ExsOK.cons (ExOK.unpS (by rfl) (fun _ _ => rfl) (fun _ => by kernel_rfl) (EvOK.tup (EvAll.cons (EvOK.sub okItem (EvOK.var (by rfl)) EvOK.int) (by rfl) (EvAll.cons (EvOK.bin opSub (EvOK.sub okItem (EvOK.var (by rfl)) EvOK.int) (EvOK.sub okItem (EvOK.var (by rfl)) EvOK.int)) (by rfl) EvAll.nil)) (by decide))) ExsOK.nil))))) (fun _ _ => rfl)) (ExsOK.cons (ExOK.ret (EvOK.cmp opEq (EvOK.call (EvOK.blt b_bytes (by kernel_rfl)) KeepsOK.type okBytes (EvAll.cons (EvOK.var (by rfl)) (by rfl) EvAll.nil) EvKw.nil) (EvOK.var (by rfl)) (by rfl))) ExsOK.nil)))))))))
end Mine
set_option maxRecDepth 100000
namespace Mine
theorem ints_of : ∀ {xs : List WData}, WShape.hasItems [] xs .int = true → ∃ is : List Int, xs = is.map .int
  | [], _ => ⟨[], rfl⟩
  | x :: r, h => by
    simp only [WShape.hasItems, Bool.and_eq_true] at h
    obtain ⟨i, rfl⟩ := hasW_int h.1
    obtain ⟨is, rfl⟩ := ints_of h.2
    exact ⟨i :: is, rfl⟩
theorem ints_rel2 {cl : Str → Option Addr} {h : Heap} {ρ : List Addr} : ∀ {is : List Int} {vs : List Value} {as : List Addr}, ReadsAllW [] cl h vs (is.map .int) as → VRels ρ (is.map AV.int) vs
  | [], vs, as, r => by
    obtain ⟨rfl, _⟩ := readsAllW_nil_inv r
    trivial
  | i :: is, vs, as, r => by
    obtain ⟨v, vs', a1, a2, rfl, _, r1, r2⟩ := readsAllW_cons_inv r
    obtain ⟨t, rfl, _⟩ := readsW_int_inv r1
    exact ⟨⟨t, rfl⟩, ints_rel2 r2⟩
theorem law_bind (name : Str) (doc pm : Value) (an : Option Addr) (ct v : Value) : bindArgs (fnOf name fi_law.qual (stParams (topSt 45)) (stPart (topSt 45)) fi_law.scope .none .none doc pm an fi_law.cd ct) ⟨[v], []⟩ = pure [(("script" : Str), v)] := by kernel_rfl
theorem law_ns (P : Params) : nsIn (hK P) mainGlobals "law" = some (some (.ref 804)) := by kernel_rfl
theorem law_some (P : Params) : ∃ o, (hK P).lookup 804 = some o := by
  obtain ⟨oc, od, name, doc, pm, an, ct, osl, h⟩ := law_at
  exact ⟨_, h P⟩
theorem pre_len {is : List Int} (h : Challenge.rw_bb0043_01.row.toRowW.claim.pre [.list (is.map .int)] = true) : is.length ≤ 63 := by
  have hc := (pre_splitW h).2
  obtain ⟨h1, _⟩ := holds_andW hc
  have h2 : (WTm.not (.lt (.lit (.int (63 : Nat))) (.len (.arg 0)))).holds [] { args := [WData.list (is.map .int)] } = true := h1
  simp [WTm.holds, WTm.value] at h2
  have h3 : less? (WData.int 63) (WData.int is.length) = some (decide ((63 : Int) < is.length)) := rfl
  rw [h3] at h2
  by_cases q : (63 : Int) < is.length
  · rw [decide_eq_true q] at h2
    exact absurd h2 (by decide)
  · lia
/-- the walk, joined -/
theorem walk_of (hp : ∀ xs : List Int, xs.length ≤ 63 → ∃ vars' σ', x_law (startV fi_law [.obj 0]) [.list false (xs.map .int), .cell none] = some (.ret (.bool true), vars', σ'))
    (q : Program) (loose : List Str) (XP : (Str → Option Value) → Heap → Prop) (d : DefRec) (kwd : List (Str × Expr)) (hn : d.name = ("law" : Str)) :
    WalkC q loose XP (kHook hK hAs hAs_ok).says PySem.Challenge.rw_bb0043_01.row.toRowW d kwd := by
  intro w s₀ s₁ mg mb G Y fa o pm cd doc dV kV ho hd' hcd hD hmg hg args vals as hpre hlay hrd hwl hlo
  rw [hn] at hmg
  have X := kIn_of Y
  have B : Base w s₁.heap := ⟨X, _, _, _, _, topRead_of G.T⟩
  obtain ⟨d, r, rfl, hs1, hs2⟩ := hasAllW_cons (pre_splitW hpre).1
  have := hasAllW_nil hs2
  subst this
  obtain ⟨xs, rfl, hs3⟩ := hasW_list hs1
  obtain ⟨is, rfl⟩ := ints_of hs3
  obtain ⟨v, vs', a1, a2, rfl, _, r1, r2⟩ := readsAllW_cons_inv hrd
  obtain ⟨rfl, _⟩ := readsAllW_nil_inv r2
  obtain ⟨ax, us, as', rfl, ⟨ol, hol, hcl, nl, hdl⟩, r3, _⟩ := readsW_list_inv r1
  obtain ⟨vars', σ', he⟩ := hp is (pre_len hpre)
  have hfa : fa = 804 := by
    have h1 := mg_of X G.T.g (law_ns w.params)
    have h2 : some (Value.ref fa) = some (.ref 804) := hmg.symm.trans h1
    cases h2; rfl
  subst hfa
  have big : sysModules < s₁.heap.objs.size := by
    obtain ⟨o, h⟩ := law_some w.params
    exact Nat.lt_trans (by decide) (Heap.lt_size (X _ _ h))
  have good : ∀ s' : Shared, s'.gens = #[] → s'.os = s₁.os → (∀ b o, s₁.heap.get? b = some o → s'.heap.get? b = some o) →
      GoodWG Challenge.rw_bb0043_01.row.toRowW.claim (classAt s₀.heap) (ExcName.means s₀.heap) [.list (is.map .int)] s₁ (.ok (.ret (.bool true))) s' := fun s' g o k =>
    GoodW.toG ⟨.inl ⟨_, .bool true, [], rfl, fun cls => by rfl, .bool true, postW_of rfl rfl (same_self _), fun _ => ⟨List.nodup_nil, fun _ q => nomatch q⟩⟩, k, o, g⟩
  refine ⟨good s₁ hg rfl fun _ _ e => e, ?_⟩
  have C : Cond 11 callerA := ⟨by decide, by decide, rfl, rfl⟩
  have key : T (model Challenge.rw_bb0043_01.row.toRowW.prog w) s₁.os callerA (PySem.call (.ref 804) [.ref ax]) s₁.heap fun v h' => (∀ b o, s₁.heap.get? b = some o → h'.get? b = some o) ∧ v = .bool true := by
    refine T.call (CT.mono (FnCT.law (fi := fi_law) (x := ax) (ao := .list false (is.map .int)) (a := .obj 0) (y := "script") (xc := "x") law_at law_code law_ok (by kernel_rfl) (by kernel_rfl) (fun n => by kernel_rfl) (fun L => rfl) rfl ⟨_, rfl⟩ (by decide) body_law law_bind B C hol ⟨hcl, fun q => (nomatch q), nl, us.toList, by rw [hdl, Array.toArray_toList], ints_rel2 r3⟩ rfl big ⟨ax, rfl, rfl⟩ he) fun f h' q => ?_)
    obtain ⟨kp, u, ρ', rfl, ru⟩ := q
    exact ⟨u, rfl, kp, ru⟩
  intro Γ p hΓ hc
  refine Sem.wp_mono _ _ _ (fun v p' s' q => ?_) (fun _ _ _ x => x.elim) _ _ (key s₁ rfl hg rfl Γ p hΓ hc)
  obtain ⟨g', o', k', rfl⟩ := q
  exact good s' g' o' k'
end Mine
set_option maxRecDepth 100000
namespace Mine
/-- a meaning that ends, and what is so at its end -/
noncomputable def RE (f : Ev) (vars : Vars) (σ : AH) (Q : AV → AH → Prop) : Prop := ∃ a s, f vars σ = some (a, s) ∧ Q a s
noncomputable def RB (f : Bo) (vars : Vars) (σ : AH) (Q : Bool → AH → Prop) : Prop := ∃ a s, f vars σ = some (a, s) ∧ Q a s
noncomputable def RX (f : Ex) (vars : Vars) (σ : AH) (Q : Fl → Vars → AH → Prop) : Prop := ∃ a v s, f vars σ = some (a, v, s) ∧ Q a v s
noncomputable def RF (f : Fn) (as : List AV) (σ : AH) (Q : AV → AH → Prop) : Prop := ∃ a s, f as σ = some (a, s) ∧ Q a s
noncomputable def RL (fs : List Ev) (vars : Vars) (σ : AH) (Q : List AV → AH → Prop) : Prop := ∃ a s, evs fs vars σ = some (a, s) ∧ Q a s
noncomputable def RS (o : Option (AV × AH)) (Q : AV → AH → Prop) : Prop := ∃ a s, o = some (a, s) ∧ Q a s
noncomputable def RC (o : Option (Bool × AH)) (Q : Bool → AH → Prop) : Prop := ∃ a s, o = some (a, s) ∧ Q a s
noncomputable def SK (g : Ex) (Q : Fl → Vars → AH → Prop) : Fl → Vars → AH → Prop
  | .next, v, s => RX g v s Q
  | fl, v, s => Q fl v s
noncomputable def IK (b : Bool) (p q : Prop) : Prop := (b = true → p) ∧ (b = false → q)
noncomputable def FK (Q : AV → AH → Prop) : Fl → Vars → AH → Prop
  | .next, _, s => Q .none s
  | .ret a, _, s => Q a s
  | _, _, _ => False
section
variable {vars : Vars} {σ : AH}
theorem RE.mono {f : Ev} {Q Q' : AV → AH → Prop} (h : RE f vars σ Q) (k : ∀ a s, Q a s → Q' a s) : RE f vars σ Q' := let ⟨a, s, e, q⟩ := h; ⟨a, s, e, k a s q⟩
theorem RF.mono {f : Fn} {as : List AV} {Q Q' : AV → AH → Prop} (h : RF f as σ Q) (k : ∀ a s, Q a s → Q' a s) : RF f as σ Q' := let ⟨a, s, e, q⟩ := h; ⟨a, s, e, k a s q⟩
theorem RX.mono {f : Ex} {Q Q' : Fl → Vars → AH → Prop} (h : RX f vars σ Q) (k : ∀ a v s, Q a v s → Q' a v s) : RX f vars σ Q' := let ⟨a, v, s, e, q⟩ := h; ⟨a, v, s, e, k a v s q⟩
theorem IK.t {p q : Prop} (h : p) : IK true p q := ⟨fun _ => h, fun e => nomatch e⟩
theorem IK.f {p q : Prop} (h : q) : IK false p q := ⟨fun e => (nomatch e), fun _ => h⟩
theorem IK.dt {c : Prop} [Decidable c] {p q : Prop} (hc : c) (h : p) : IK (decide c) p q := ⟨fun _ => h, fun e => absurd hc (of_decide_eq_false e)⟩
theorem IK.df {c : Prop} [Decidable c] {p q : Prop} (hc : ¬ c) (h : q) : IK (decide c) p q := ⟨fun e => absurd (of_decide_eq_true e) hc, fun _ => h⟩
theorem IK.nt {c : Prop} [Decidable c] {p q : Prop} (hc : c) (h : q) : IK (!decide c) p q := ⟨fun e => absurd hc (of_decide_eq_false (by simpa using e)), fun _ => h⟩
theorem IK.nf {c : Prop} [Decidable c] {p q : Prop} (hc : ¬ c) (h : p) : IK (!decide c) p q := ⟨fun _ => h, fun e => absurd (of_decide_eq_true (by simpa using e)) hc⟩
theorem IK.bt {α : Type} [BEq α] [LawfulBEq α] {x y : α} {p q : Prop} (hc : x = y) (h : p) : IK (x == y) p q := by subst hc; rw [beq_self_eq_true]; exact IK.t h
theorem IK.bf {α : Type} [BEq α] [LawfulBEq α] {x y : α} {p q : Prop} (hc : x ≠ y) (h : q) : IK (x == y) p q := by rw [beq_eq_false_iff_ne.mpr hc]; exact IK.f h
theorem IK.nbt {α : Type} [BEq α] [LawfulBEq α] {x y : α} {p q : Prop} (hc : x ≠ y) (h : p) : IK (x != y) p q := by
  have : (x != y) = true := by simpa using hc
  rw [this]; exact IK.t h
theorem IK.nbf {α : Type} [BEq α] [LawfulBEq α] {x y : α} {p q : Prop} (hc : x = y) (h : q) : IK (x != y) p q := by
  have : (x != y) = false := by simpa using hc
  rw [this]; exact IK.f h
noncomputable def LK (k : Vars → AH → Prop) (Q : Fl → Vars → AH → Prop) : Fl → Vars → AH → Prop
  | .next, v, s => k v s
  | .cont, v, s => k v s
  | .brk, v, s => Q .next v s
  | .ret a, v, s => Q (.ret a) v s
theorem LK.next {k : Vars → AH → Prop} {Q : Fl → Vars → AH → Prop} (h : k vars σ) : LK k Q .next vars σ := h
theorem LK.cont {k : Vars → AH → Prop} {Q : Fl → Vars → AH → Prop} (h : k vars σ) : LK k Q .cont vars σ := h
theorem LK.ret {k : Vars → AH → Prop} {a : AV} {Q : Fl → Vars → AH → Prop} (h : Q (.ret a) vars σ) : LK k Q (.ret a) vars σ := h
theorem RX.while {c : Bo} {b : Ex} {n : Nat} {Q : Fl → Vars → AH → Prop} (h : RB c vars σ fun v s => IK v (RX b vars s (LK (fun v' s' => RX (whileF c b n) v' s' Q) Q)) (Q .next vars s)) : RX (whileF c b (n + 1)) vars σ Q := by
  obtain ⟨v, s, e, q⟩ := h
  unfold RX
  rw [whileF]
  dsimp only
  rw [e]
  simp only [Option.bind_some]
  cases v with
  | false => exact ⟨_, _, _, rfl, q.2 rfl⟩
  | true =>
    obtain ⟨fl, v', s', e', q⟩ := q.1 rfl
    rw [if_pos rfl, e']
    simp only [Option.bind_some]
    cases fl with
    | next => exact q
    | cont => exact q
    | brk => exact ⟨_, _, _, rfl, q⟩
    | ret a => exact ⟨_, _, _, rfl, q⟩
theorem RX.forS {k n : Nat} {b : Ex} {I J : It} {a : AV} {Q : Fl → Vars → AH → Prop} (e : nextIt I σ = some (some (a, J))) (hk : k < vars.length) (h : RX b (vars.set k (some a)) σ (LK (fun v' s' => RX (forF k b n J) v' s' Q) Q)) : RX (forF k b (n + 1) I) vars σ Q := by
  obtain ⟨fl, v', s', e', q⟩ := h
  unfold RX
  rw [forF]
  dsimp only
  rw [e]
  simp only [Option.bind_some]
  rw [show setV k a vars = some (vars.set k (some a)) from if_pos hk]
  simp only [Option.bind_some]
  rw [e']
  simp only [Option.bind_some]
  cases fl with
  | next => exact q
  | cont => exact q
  | brk => exact ⟨_, _, _, rfl, q⟩
  | ret a => exact ⟨_, _, _, rfl, q⟩
theorem RX.forE {k n : Nat} {b : Ex} {I : It} {Q : Fl → Vars → AH → Prop} (e : nextIt I σ = some none) (h : Q .next vars σ) : RX (forF k b (n + 1) I) vars σ Q := by
  unfold RX
  rw [forF]
  dsimp only
  rw [e]
  exact ⟨_, _, _, rfl, h⟩
theorem RX.for {k n : Nat} {f : Vars → AH → Option (It × AH)} {I : It} {s : AH} {b : Ex} {Q : Fl → Vars → AH → Prop} (e : f vars σ = some (I, s)) (h : RX (forF k b n I) vars s Q) : RX (xFor k n f b) vars σ Q := by
  unfold RX xFor
  rw [e]
  exact h
theorem SK.next {g : Ex} {Q : Fl → Vars → AH → Prop} (h : RX g vars σ Q) : SK g Q .next vars σ := h
theorem SK.ret {g : Ex} {Q : Fl → Vars → AH → Prop} {a : AV} (h : Q (.ret a) vars σ) : SK g Q (.ret a) vars σ := h
theorem SK.cont {g : Ex} {Q : Fl → Vars → AH → Prop} (h : Q .cont vars σ) : SK g Q .cont vars σ := h
theorem FK.next {Q : AV → AH → Prop} (h : Q .none σ) : FK Q .next vars σ := h
theorem FK.ret {Q : AV → AH → Prop} {a : AV} (h : Q a σ) : FK Q (.ret a) vars σ := h
-- statements
theorem RX.seq {f g : Ex} {Q : Fl → Vars → AH → Prop} (h : RX f vars σ (SK g Q)) : RX (xSeq f g) vars σ Q := by
  obtain ⟨fl, v, s, e, q⟩ := h
  unfold RX xSeq
  rw [e]
  cases fl with
  | next => exact q
  | ret a => exact ⟨_, _, _, rfl, q⟩
  | cont => exact ⟨_, _, _, rfl, q⟩
  | brk => exact ⟨_, _, _, rfl, q⟩
theorem RX.nil {Q : Fl → Vars → AH → Prop} (h : Q .next vars σ) : RX xNil vars σ Q := ⟨_, _, _, rfl, h⟩
theorem RX.cont {Q : Fl → Vars → AH → Prop} (h : Q .cont vars σ) : RX xCont vars σ Q := ⟨_, _, _, rfl, h⟩
theorem RX.ite {c : Bo} {f g : Ex} {Q : Fl → Vars → AH → Prop} (h : RB c vars σ fun b s => IK b (RX f vars s Q) (RX g vars s Q)) : RX (xIf c f g) vars σ Q := by
  obtain ⟨b, s, e, q⟩ := h
  unfold RX xIf
  rw [e]
  cases b with
  | true => exact q.1 rfl
  | false => exact q.2 rfl
theorem RX.ret {f : Ev} {Q : Fl → Vars → AH → Prop} (h : RE f vars σ fun a s => Q (.ret a) vars s) : RX (xRet f) vars σ Q := by
  obtain ⟨b, s, e, q⟩ := h
  exact ⟨_, _, _, by unfold xRet; rw [e]; rfl, q⟩
theorem RX.expr {f : Ev} {Q : Fl → Vars → AH → Prop} (h : RE f vars σ fun a s => notObj a = true ∧ Q .next vars s) : RX (xExpr f) vars σ Q := by
  obtain ⟨b, s, e, q⟩ := h
  exact ⟨_, _, _, by unfold xExpr; rw [e]; exact if_pos q.1, q.2⟩
theorem RX.asg {i : Nat} {f : Ev} {Q : Fl → Vars → AH → Prop} (h : RE f vars σ fun a s => i < vars.length ∧ Q .next (vars.set i (some a)) s) : RX (xAsg i f) vars σ Q := by
  obtain ⟨b, s, e, q⟩ := h
  exact ⟨_, _, _, by unfold xAsg setV; rw [e]; show Option.map _ (if _ then _ else _) = _; rw [if_pos q.1]; rfl, q.2⟩
theorem RX.aug {i : Nat} {sem : AV → AV → AH → Option (AV × AH)} {f : Ev} {a : AV} {Q : Fl → Vars → AH → Prop} (hv : (vars[i]?).join = some a) (h : RE f vars σ fun b s => RS (sem a b s) fun c s' => i < vars.length ∧ Q .next (vars.set i (some c)) s') : RX (xAug i sem f) vars σ Q := by
  obtain ⟨b, s, e, c, s', e', q⟩ := h
  refine ⟨_, _, _, ?_, q.2⟩
  unfold xAug setV
  rw [hv]
  show Option.bind (f vars σ) _ = _
  rw [e]
  show Option.bind (sem a b s) _ = _
  rw [e']
  show Option.map _ (if _ then _ else _) = _
  rw [if_pos q.1]; rfl
-- expressions
theorem RE.var {i : Nat} {a : AV} {Q : AV → AH → Prop} (hv : (vars[i]?).join = some a) (h : Q a σ) : RE (eVar i) vars σ Q := ⟨_, _, by unfold eVar; rw [hv]; rfl, h⟩
theorem RE.const {a : AV} {Q : AV → AH → Prop} (h : Q a σ) : RE (eConst a) vars σ Q := ⟨_, _, rfl, h⟩
theorem RE.st {v : Value} {Q : AV → AH → Prop} (h : Q (.st v) σ) : RE (eSt v) vars σ Q := ⟨_, _, rfl, h⟩
theorem RE.bin {sem : AV → AV → AH → Option (AV × AH)} {f g : Ev} {Q : AV → AH → Prop} (h : RE f vars σ fun a s => RE g vars s fun b s' => RS (sem a b s') Q) : RE (eBin sem f g) vars σ Q := by
  obtain ⟨a, s, e, b, s', e', c, s'', e'', q⟩ := h
  refine ⟨c, s'', ?_, q⟩
  unfold eBin
  rw [e]
  show Option.bind (g vars s) _ = _
  rw [e']
  exact e''
theorem RE.un {sem : AV → AH → Option (AV × AH)} {f : Ev} {Q : AV → AH → Prop} (h : RE f vars σ fun a s => RS (sem a s) Q) : RE (eUn sem f) vars σ Q := by
  obtain ⟨a, s, e, c, s'', e'', q⟩ := h
  refine ⟨c, s'', ?_, q⟩
  unfold eUn
  rw [e]
  exact e''
theorem RE.cmp {sem : AV → AV → AH → Option (Bool × AH)} {f g : Ev} {Q : AV → AH → Prop} (h : RE f vars σ fun a s => RE g vars s fun b s' => RC (sem a b s') fun c s'' => Q (.bool c) s'') : RE (eCmp sem f g) vars σ Q := by
  obtain ⟨a, s, e, b, s', e', c, s'', e'', q⟩ := h
  refine ⟨_, s'', ?_, q⟩
  unfold eCmp eBin
  rw [e]
  show Option.bind (g vars s) _ = _
  rw [e']
  show asV sem a b s' = _
  unfold asV
  rw [e'']; rfl
theorem RE.ite {c : Bo} {f g : Ev} {Q : AV → AH → Prop} (h : RB c vars σ fun b s => IK b (RE f vars s Q) (RE g vars s Q)) : RE (eIf c f g) vars σ Q := by
  obtain ⟨b, s, e, q⟩ := h
  unfold RE eIf
  rw [e]
  cases b with
  | true => exact q.1 rfl
  | false => exact q.2 rfl
theorem RE.attr {f : Ev} {sem : AV → AH → Option AV} {Q : AV → AH → Prop} (h : RE f vars σ fun a s => ∃ c, sem a s = some c ∧ Q c s) : RE (eAttr f sem) vars σ Q := by
  obtain ⟨b, s, e, c, e', q⟩ := h
  exact ⟨c, s, by unfold eAttr; rw [e]; show Option.map _ (sem b s) = _; rw [e']; rfl, q⟩
theorem RE.cls {f : Ev} {n : Str} {Q : AV → AH → Prop} (h : RE f vars σ fun a s => ∃ x c, a = .st (.ref x) ∧ clsAttr x n = some c ∧ Q c s) : RE (eAttr f (semCls n)) vars σ Q :=
  RE.attr (h.mono fun a s ⟨x, c, q⟩ => ⟨c, by rw [q.1]; exact q.2.1, q.2.2⟩)
theorem RL.nil {Q : List AV → AH → Prop} (h : Q [] σ) : RL [] vars σ Q := ⟨_, _, rfl, h⟩
theorem RL.cons {f : Ev} {fs : List Ev} {Q : List AV → AH → Prop} (h : RE f vars σ fun a s => RL fs vars s fun as s' => Q (a :: as) s') : RL (f :: fs) vars σ Q := by
  obtain ⟨a, s, e, as, s', e', q⟩ := h
  refine ⟨_, s', ?_, q⟩
  rw [evs]
  rw [e]
  show Option.map _ (evs fs vars s) = _
  rw [e']; rfl
theorem RL.app {fs gs : List Ev} {Q : List AV → AH → Prop} (h : RL fs vars σ fun a s => RL gs vars s fun as s' => Q (a ++ as) s') : RL (fs ++ gs) vars σ Q := by
  obtain ⟨a, s, e, as, s', e', q⟩ := h
  refine ⟨_, s', ?_, q⟩
  rw [evs_append, e]
  show Option.map _ (evs gs vars s) = _
  rw [e']; rfl
theorem RE.call {fs : List Ev} {F : Fn} {Q : AV → AH → Prop} (h : RL fs vars σ fun as s => RF F as s Q) : RE (eCall fs F) vars σ Q := by
  obtain ⟨a, s, e, c, s'', e'', q⟩ := h
  refine ⟨c, s'', ?_, q⟩
  unfold eCall
  rw [e]
  exact e''
theorem RE.meth {fo : Ev} {sel : AV → AH → Option Bool} {fs : List Ev} {F : Fn} {Q : AV → AH → Prop} (h : RE fo vars σ fun o s => ∃ b, sel o s = some b ∧ RL fs vars s fun as s' => RF F (if b then o :: as else as) s' Q) : RE (eMeth fo sel fs F) vars σ Q := by
  obtain ⟨o, s, e, b, e1, as, s', e', c, s'', e'', q⟩ := h
  refine ⟨c, s'', ?_, q⟩
  unfold eMeth
  rw [e]
  show Option.bind (sel o s) _ = _
  rw [e1]
  show Option.bind (evs fs vars s) _ = _
  rw [e']
  exact e''
theorem RE.list {fs : List Ev} {Q : AV → AH → Prop} (h : RL fs vars σ fun as s => Q (.obj s.length) (s ++ [.list true as])) : RE (eList fs) vars σ Q := by
  obtain ⟨a, s, e, q⟩ := h
  exact ⟨_, _, by unfold eList; rw [e]; rfl, q⟩
theorem RE.tup {fs : List Ev} {Q : AV → AH → Prop} (h : RL fs vars σ fun as s => Q (.obj s.length) (s ++ [.tup as])) : RE (eTup fs) vars σ Q := by
  obtain ⟨a, s, e, q⟩ := h
  exact ⟨_, _, by unfold eTup; rw [e]; rfl, q⟩
theorem RE.cut {f : Ev} {g k : Option Ev} {Q : AV → AH → Prop} (h : RE f vars σ fun a s => RE (eOpt g) vars s fun b s' => RE (eOpt k) vars s' fun c s'' => ∃ lo hi, bound b = some lo ∧ bound c = some hi ∧ RS (gCut a lo hi s'') Q) : RE (eCut f g k) vars σ Q := by
  obtain ⟨a, s, e, b, s', e', c, s'', e'', lo, hi, e1, e2, r, s3, e3, q⟩ := h
  refine ⟨r, s3, ?_, q⟩
  unfold eCut
  rw [e]
  show Option.bind (eOpt g vars s) _ = _
  rw [e']
  show Option.bind (eOpt k vars s') _ = _
  rw [e'']
  show Option.bind (bound b) _ = _
  rw [e1]
  show Option.bind (bound c) _ = _
  rw [e2]
  exact e3
theorem RE.optSome {f : Ev} {Q : AV → AH → Prop} (h : RE f vars σ Q) : RE (eOpt (some f)) vars σ Q := h
theorem RE.optNone {Q : AV → AH → Prop} (h : Q .none σ) : RE (eOpt none) vars σ Q := ⟨_, _, rfl, h⟩
theorem RX.putCut {f fo : Ev} {g k : Option Ev} {Q : Fl → Vars → AH → Prop} (h : RE f vars σ fun v s => RE fo vars s fun a s0 => RE (eOpt g) vars s0 fun b s' => RE (eOpt k) vars s' fun c s'' => ∃ lo hi s3, bound b = some lo ∧ bound c = some hi ∧ Mine.putCut a lo hi v s'' = some s3 ∧ Q .next vars s3) : RX (xPutCut f fo g k) vars σ Q := by
  obtain ⟨v, s, e, a, s0, e0, b, s', e', c, s'', e'', lo, hi, s3, e1, e2, e3, q⟩ := h
  refine ⟨.next, vars, s3, ?_, q⟩
  unfold xPutCut
  rw [e]
  show Option.bind (fo vars s) _ = _
  rw [e0]
  show Option.bind (eOpt g vars s0) _ = _
  rw [e']
  show Option.bind (eOpt k vars s') _ = _
  rw [e'']
  show Option.bind (bound b) _ = _
  rw [e1]
  show Option.bind (bound c) _ = _
  rw [e2]
  show Option.map _ (Mine.putCut a lo hi v s'') = _
  rw [e3]; rfl
theorem RX.put {f fo g : Ev} {Q : Fl → Vars → AH → Prop} (h : RE f vars σ fun v s => RE fo vars s fun a s0 => RE g vars s0 fun b s' => ∃ s3, putItem a b v s' = some s3 ∧ Q .next vars s3) : RX (xPut f fo g) vars σ Q := by
  obtain ⟨v, s, e, a, s0, e0, b, s', e', s3, e3, q⟩ := h
  refine ⟨.next, vars, s3, ?_, q⟩
  unfold xPut
  rw [e]
  show Option.bind (fo vars s) _ = _
  rw [e0]
  show Option.bind (g vars s0) _ = _
  rw [e']
  show Option.map _ (putItem a b v s') = _
  rw [e3]; rfl
theorem RX.set {c : Cl} {i : Nat} {fo f : Ev} {Q : Fl → Vars → AH → Prop} (h : RE f vars σ fun v s => RE fo vars s fun a s0 => ∃ s3, setSlot c i a v s0 = some s3 ∧ Q .next vars s3) : RX (xSet c i fo f) vars σ Q := by
  obtain ⟨v, s, e, a, s0, e0, s3, e3, q⟩ := h
  refine ⟨.next, vars, s3, ?_, q⟩
  unfold xSet
  rw [e]
  show Option.bind (fo vars s) _ = _
  rw [e0]
  show Option.map _ (setSlot c i a v s0) = _
  rw [e3]; rfl
theorem RX.unp {ks : List Nat} {f : Ev} {Q : Fl → Vars → AH → Prop} (h : RE f vars σ fun a s => ∃ xs v, itemsOf a s = some xs ∧ xs.length = ks.length ∧ setVs (ks.zip xs) vars = some v ∧ Q .next v s) : RX (xUnp ks f) vars σ Q := by
  obtain ⟨a, s, e, xs, v, e1, e2, e3, q⟩ := h
  refine ⟨.next, v, s, ?_, q⟩
  unfold xUnp
  rw [e]
  show Option.bind (itemsOf a s) _ = _
  rw [e1]
  show (if _ then _ else _) = _
  rw [if_pos e2, e3]; rfl
theorem RX.unpS {ks : List Nat} {f : Ev} {Q : Fl → Vars → AH → Prop} (h : RE f vars σ fun a s => ∃ xs v, itemsOf a s = some xs ∧ xs.length = ks.length ∧ setVs (ks.zip xs).reverse vars = some v ∧ Q .next v s) : RX (xUnpS ks f) vars σ Q := by
  obtain ⟨a, s, e, xs, v, e1, e2, e3, q⟩ := h
  refine ⟨.next, v, s, ?_, q⟩
  unfold xUnpS
  rw [e]
  show Option.bind (itemsOf a s) _ = _
  rw [e1]
  show (if _ then _ else _) = _
  rw [if_pos e2, e3]; rfl
-- conditions
theorem RB.val {f : Ev} {Q : Bool → AH → Prop} (h : RE f vars σ fun a s => ∃ b, truthA a = some b ∧ Q b s) : RB (bVal f) vars σ Q := by
  obtain ⟨a, s, e, b, e1, q⟩ := h
  exact ⟨b, s, by unfold bVal; rw [e]; show Option.map _ (truthA a) = _; rw [e1]; rfl, q⟩
theorem RB.not {f : Bo} {Q : Bool → AH → Prop} (h : RB f vars σ fun b s => Q (!b) s) : RB (bNot f) vars σ Q := by
  obtain ⟨a, s, e, q⟩ := h
  exact ⟨_, s, by unfold bNot; rw [e]; rfl, q⟩
theorem RB.cmp {sem : AV → AV → AH → Option (Bool × AH)} {f g : Ev} {Q : Bool → AH → Prop} (h : RE f vars σ fun a s => RE g vars s fun b s' => RC (sem a b s') Q) : RB (bCmp sem f g) vars σ Q := by
  obtain ⟨a, s, e, b, s', e', c, s'', e'', q⟩ := h
  refine ⟨c, s'', ?_, q⟩
  unfold bCmp
  rw [e]
  show Option.bind (g vars s) _ = _
  rw [e']
  exact e''
theorem RB.and {f g : Bo} {Q : Bool → AH → Prop} (h : RB f vars σ fun b s => IK b (RB g vars s Q) (Q false s)) : RB (bAnd f g) vars σ Q := by
  obtain ⟨b, s, e, q⟩ := h
  unfold RB bAnd
  rw [e]
  cases b with
  | true => exact q.1 rfl
  | false => exact ⟨false, s, rfl, q.2 rfl⟩
theorem RB.or {f g : Bo} {Q : Bool → AH → Prop} (h : RB f vars σ fun b s => IK b (Q true s) (RB g vars s Q)) : RB (bOr f g) vars σ Q := by
  obtain ⟨b, s, e, q⟩ := h
  unfold RB bOr
  rw [e]
  cases b with
  | true => exact ⟨true, s, rfl, q.1 rfl⟩
  | false => exact q.2 rfl
theorem RB.chain {f1 f2 : AV → AV → AH → Option (Bool × AH)} {f g k : Ev} {Q : Bool → AH → Prop} (h : RE f vars σ fun a s => RE g vars s fun b s' => RC (f1 a b s') fun c s'' => IK c (RE k vars s'' fun d s3 => RC (f2 b d s3) Q) (Q false s'')) : RB (bChain f1 f2 f g k) vars σ Q := by
  obtain ⟨a, s, e, b, s', e', c, s'', e'', q⟩ := h
  unfold RB bChain
  rw [e]
  simp only [Option.bind_some]
  rw [e']
  simp only [Option.bind_some]
  rw [e'']
  cases c with
  | true =>
    obtain ⟨d, s3, e3, r, s4, e4, q⟩ := q.1 rfl
    refine ⟨r, s4, ?_, q⟩
    simp only [Option.bind_some, if_true]
    rw [e3]
    exact e4
  | false => exact ⟨false, _, rfl, q.2 rfl⟩
-- calls
theorem RF.def {da : List AV} {fi : FI} {n : Nat} {x : Ex} {as : List AV} {v : Vars} {Q : AV → AH → Prop} (hl : (as ++ da).length = n) (hv : startV fi (as ++ da) = v) (h : RX x v σ (FK Q)) : RF (fDef da (fFun fi n x)) as σ Q := by
  subst hv
  obtain ⟨fl, v, s, e, q⟩ := h
  unfold RF fDef fFun
  rw [if_pos hl, e]
  cases fl with
  | next => exact ⟨_, _, rfl, q⟩
  | ret a => exact ⟨_, _, rfl, q⟩
  | cont => exact q.elim
  | brk => exact q.elim
-- operators
theorem RS.pure2 {f : AV → AV → Option AV} {a b c : AV} {Q : AV → AH → Prop} (e : f a b = some c) (h : Q c σ) : RS (pure2 f a b σ) Q := ⟨c, σ, by unfold Mine.pure2; rw [e]; rfl, h⟩
theorem RS.pure1 {f : AV → Option AV} {a c : AV} {Q : AV → AH → Prop} (e : f a = some c) (h : Q c σ) : RS (pure1 f a σ) Q := ⟨c, σ, by unfold Mine.pure1; rw [e]; rfl, h⟩
theorem RC.s {f : AV → AV → Option Bool} {a b : AV} {c : Bool} {Q : Bool → AH → Prop} (e : f a b = some c) (h : Q c σ) : RC (sCmp f a b σ) Q := ⟨c, σ, by unfold sCmp; rw [e]; rfl, h⟩
theorem RC.eq {a b : AV} {c : Bool} {Q : Bool → AH → Prop} (e : cEq a b σ = some c) (h : Q c σ) : RC (sEq a b σ) Q := ⟨c, σ, by unfold sEq; rw [e]; rfl, h⟩
theorem RC.ne {a b : AV} {c : Bool} {Q : Bool → AH → Prop} (e : cNe a b σ = some c) (h : Q c σ) : RC ((cNe a b σ).map fun c => (c, σ)) Q := ⟨c, σ, by rw [e]; rfl, h⟩
theorem RS.mulR {x y : Int} {Q : AV → AH → Prop} (e : y.natAbs < 2 ^ 62) (h : Q (.int (x * y)) σ) : RS (mMul (.int x) (.int y) σ) Q :=
  RS.pure2 (by unfold fInt2; dsimp only; rw [if_pos (.inr e)]; rfl) h
theorem RS.some {a : AV} {s : AH} {o : Option (AV × AH)} {Q : AV → AH → Prop} (e : o = some (a, s)) (h : Q a s) : RS o Q := ⟨a, s, e, h⟩
theorem RF.some {f : Fn} {as : List AV} {a : AV} {s : AH} {Q : AV → AH → Prop} (e : f as σ = some (a, s)) (h : Q a s) : RF f as σ Q := ⟨a, s, e, h⟩
end
end Mine
set_option maxRecDepth 100000
namespace Mine
theorem ca_64_bw : clsAttr 64 "bytewidth" = some (.int 1) := by rfl
theorem ca_78_bw : clsAttr 78 "bytewidth" = some (.int 2) := by rfl
theorem ca_92_bw : clsAttr 92 "bytewidth" = some (.int 4) := by rfl
theorem ca_106_bw : clsAttr 106 "bytewidth" = some (.int 8) := by rfl
theorem ca_120_bw : clsAttr 120 "bytewidth" = some (.int 4) := by rfl
theorem ca_134_bw : clsAttr 134 "bytewidth" = some (.int 4) := by rfl
theorem ca_146_bw : clsAttr 146 "bytewidth" = some (.int 4) := by rfl
theorem ca_158_bw : clsAttr 158 "bytewidth" = some (.int 2) := by rfl
theorem ca_64_lo : clsAttr 64 "min_val" = some (.int 0) := by rfl
theorem ca_106_lo : clsAttr 106 "min_val" = some (.int 0) := by rfl
theorem ca_120_lo : clsAttr 120 "min_val" = some (.int (-2147483648)) := by rfl
theorem ca_134_lo : clsAttr 134 "min_val" = some (.int (-2147483648)) := by rfl
theorem ca_146_lo : clsAttr 146 "min_val" = some (.int 0) := by rfl
theorem ca_158_lo : clsAttr 158 "min_val" = some (.int 0) := by rfl
theorem ca_64_hi : clsAttr 64 "max_val" = some (.int 255) := by rfl
theorem ca_106_hi : clsAttr 106 "max_val" = some (.int 18446744073709551615) := by rfl
theorem ca_120_hi : clsAttr 120 "max_val" = some (.int 2147483647) := by rfl
theorem ca_134_hi : clsAttr 134 "max_val" = some (.int 2147483647) := by rfl
theorem ca_146_hi : clsAttr 146 "max_val" = some (.int 4294967295) := by rfl
theorem ca_158_hi : clsAttr 158 "max_val" = some (.int 65535) := by rfl
theorem ca_64_pk : clsAttr 64 "packer_type" = some (.st (.ref 50)) := by rfl
theorem ca_106_pk : clsAttr 106 "packer_type" = some (.st (.ref 53)) := by rfl
theorem ca_120_pk : clsAttr 120 "packer_type" = some (.st (.ref 54)) := by rfl
theorem ca_134_pk : clsAttr 134 "packer_type" = some (.st (.ref 54)) := by rfl
theorem ca_146_pk : clsAttr 146 "packer_type" = some (.st (.ref 52)) := by rfl
theorem ca_158_pk : clsAttr 158 "packer_type" = some (.st (.ref 51)) := by rfl
theorem ca_749 : clsAttr 749 "MAX_BUFFER_SIZE" = some (.int 2147483648) := by rfl
/-- a builder, by its parts -/
structure Bd where
  d : Nat
  j : Nat
  t : Nat
  vt : AO
  bs : List UInt8
  head : Int
  ma : Int
  nested : Bool
  fin : Bool
  vl : Option (Nat × List AV)
  oe : AV
  ve : Option AV
noncomputable def Bd.cv (S : Bd) : AV := match S.vl with
  | none => .none
  | some (l, _) => .obj l
noncomputable abbrev Bd.sl (S : Bd) : List (Option AV) := [some (.obj S.j), some S.cv, some (.bool S.fin), some (.bool false), some (.int S.head), some (.int S.ma), some (.bool S.nested), some S.oe, some .none, S.ve, some (.obj S.t)]
/-- a builder stands; what C holds stands beside it -/
structure Inv (C : Nat → Option AO) (b : Nat) (S : Bd) (σ : AH) : Prop where
  inst : σ[b]? = some (.inst .builder S.d S.sl)
  dict : σ[S.d]? = some .edict
  ba : σ[S.j]? = some (.ba S.bs)
  tab : σ[S.t]? = some S.vt
  vtd : S.vt = .edict ∨ S.vt = .junk
  ntd : S.t ≠ S.d
  lst : ∀ l xs, S.vl = some (l, xs) → σ[l]? = some (.list true xs) ∧ C l = none
  cb : C b = none
  cj : C S.j = none
  ct : C S.t = none
  keep : ∀ i ao, C i = some ao → σ[i]? = some ao
section
variable {C : Nat → Option AO} {b : Nat} {S S' : Bd} {σ : AH} {vars : Vars}
theorem Inv.of (I : Inv C b S σ) : instOf .builder (.obj b) σ = some (b, S.d, S.sl) := by
  unfold instOf
  dsimp only
  rw [I.inst]
  exact if_pos ⟨rfl, I.dict⟩
theorem Inv.sel (I : Inv C b S σ) : selI .builder (.obj b) σ = some true := by
  unfold selI
  rw [I.of]; rfl
theorem RE.bslot {k i : Nat} {a : AV} {Q : AV → AH → Prop} (I : Inv C b S σ) (hv : (vars[k]?).join = some (.obj b)) (hs : (S.sl[i]?).join = some a) (hn : noSt a = some a) (q : Q a σ) : RE (eAttr (eVar k) (semSlot .builder i)) vars σ Q := by
  refine RE.attr (RE.var hv ⟨a, ?_, q⟩)
  unfold semSlot
  rw [I.of]
  show ((S.sl[i]?).join).bind noSt = some a
  rw [hs]; exact hn
theorem get_set {σ : AH} {i j : Nat} {a x : AO} (h : σ[j]? = some x) (hne : i ≠ j) : (σ.set i a)[j]? = some x := by rw [List.getElem?_set_ne hne]; exact h
theorem get_self {σ : AH} {i : Nat} {a x : AO} (h : σ[i]? = some x) : (σ.set i a)[i]? = some a := List.getElem?_set_self (List.getElem?_eq_some_iff.mp h).1
theorem ne_of_get {σ : AH} {i j : Nat} {a x : AO} (h : σ[i]? = some a) (k : σ[j]? = some x) (hax : a ≠ x) : i ≠ j := fun e => by
  subst e; rw [h] at k; exact hax (Option.some.inj k)
theorem get_app {σ τ : AH} {j : Nat} {x : AO} (h : σ[j]? = some x) : (σ ++ τ)[j]? = some x := by rw [List.getElem?_append_left (List.getElem?_eq_some_iff.mp h).1]; exact h
/-- the object is turned -/
theorem Inv.turn (I : Inv C b S σ) (h1 : S'.d = S.d) (h2 : S'.j = S.j) (h3 : S'.t = S.t) (h4 : S'.vt = S.vt) (h5 : S'.bs = S.bs) (h6 : S'.vl = S.vl) : Inv C b S' (σ.set b (.inst .builder S.d S'.sl)) := by
  have nd : b ≠ S.d := ne_of_get I.inst I.dict (by intro e; cases e)
  have nj : b ≠ S.j := ne_of_get I.inst I.ba (by intro e; cases e)
  have nt : b ≠ S.t := ne_of_get I.inst I.tab (by rcases I.vtd with e | e <;> rw [e] <;> intro e <;> cases e)
  refine ⟨by rw [h1]; exact get_self I.inst, by rw [h1]; exact get_set I.dict nd, by rw [h2, h5]; exact get_set I.ba nj, by rw [h3, h4]; exact get_set I.tab nt, by rw [h4]; exact I.vtd, by rw [h3, h1]; exact I.ntd, fun l xs e => ?_, I.cb, by rw [h2]; exact I.cj, by rw [h3]; exact I.ct, fun i ao e => ?_⟩
  · rw [h6] at e
    obtain ⟨x, y⟩ := I.lst l xs e
    exact ⟨get_set x (ne_of_get I.inst x (by intro e; cases e)), y⟩
  · refine get_set (I.keep i ao e) fun q => ?_
    rw [← q, I.cb] at e; cases e
theorem Inv.setSlot {i : Nat} {v : AV} (I : Inv C b S σ) (hi : i < 11) (h0 : S.sl.set i (some v) = S'.sl) (h1 : S'.d = S.d) (h2 : S'.j = S.j) (h3 : S'.t = S.t) (h4 : S'.vt = S.vt) (h5 : S'.bs = S.bs) (h6 : S'.vl = S.vl) :
    ∃ s, Mine.setSlot .builder i (.obj b) v σ = some s ∧ Inv C b S' s := by
  refine ⟨_, ?_, I.turn h1 h2 h3 h4 h5 h6⟩
  unfold Mine.setSlot
  rw [I.of]
  show (if i < S.sl.length then some (σ.set b (.inst .builder S.d (S.sl.set i (some v)))) else none) = _
  rw [if_pos (show i < S.sl.length from hi), h0]
theorem RX.bset {k i : Nat} {f : Ev} {Q : Fl → Vars → AH → Prop} (h : RE f vars σ fun v s => ∃ S S', Inv C b S s ∧ (vars[k]?).join = some (.obj b) ∧ i < 11 ∧ S.sl.set i (some v) = S'.sl ∧ (S'.d = S.d ∧ S'.j = S.j ∧ S'.t = S.t ∧ S'.vt = S.vt ∧ S'.bs = S.bs ∧ S'.vl = S.vl) ∧ ∀ s', Inv C b S' s' → Q .next vars s') :
    RX (xSet .builder i (eVar k) f) vars σ Q := by
  refine RX.set (h.mono fun v s q => ?_)
  obtain ⟨S, S', I, hv, hi, h0, ⟨h1, h2, h3, h4, h5, h6⟩, q⟩ := q
  obtain ⟨s', e, I'⟩ := I.setSlot hi h0 h1 h2 h3 h4 h5 h6
  exact RE.var hv ⟨s', e, q s' I'⟩
theorem RX.sHead {k : Nat} {f : Ev} {Q : Fl → Vars → AH → Prop} (h : RE f vars σ fun v s => ∃ S x, Inv C b S s ∧ (vars[k]?).join = some (.obj b) ∧ v = .int x ∧ ∀ s', Inv C b { S with head := x } s' → Q .next vars s') : RX (xSet .builder 4 (eVar k) f) vars σ Q :=
  RX.bset (h.mono fun v s q => by obtain ⟨S, x, I, hv, rfl, q⟩ := q; exact ⟨S, { S with head := x }, I, hv, by decide, rfl, ⟨rfl, rfl, rfl, rfl, rfl, rfl⟩, q⟩)
theorem RX.sMa {k : Nat} {f : Ev} {Q : Fl → Vars → AH → Prop} (h : RE f vars σ fun v s => ∃ S x, Inv C b S s ∧ (vars[k]?).join = some (.obj b) ∧ v = .int x ∧ ∀ s', Inv C b { S with ma := x } s' → Q .next vars s') : RX (xSet .builder 5 (eVar k) f) vars σ Q :=
  RX.bset (h.mono fun v s q => by obtain ⟨S, x, I, hv, rfl, q⟩ := q; exact ⟨S, { S with ma := x }, I, hv, by decide, rfl, ⟨rfl, rfl, rfl, rfl, rfl, rfl⟩, q⟩)
theorem RX.sNested {k : Nat} {f : Ev} {Q : Fl → Vars → AH → Prop} (h : RE f vars σ fun v s => ∃ S x, Inv C b S s ∧ (vars[k]?).join = some (.obj b) ∧ v = .bool x ∧ ∀ s', Inv C b { S with nested := x } s' → Q .next vars s') : RX (xSet .builder 6 (eVar k) f) vars σ Q :=
  RX.bset (h.mono fun v s q => by obtain ⟨S, x, I, hv, rfl, q⟩ := q; exact ⟨S, { S with nested := x }, I, hv, by decide, rfl, ⟨rfl, rfl, rfl, rfl, rfl, rfl⟩, q⟩)
theorem RX.sFin {k : Nat} {f : Ev} {Q : Fl → Vars → AH → Prop} (h : RE f vars σ fun v s => ∃ S x, Inv C b S s ∧ (vars[k]?).join = some (.obj b) ∧ v = .bool x ∧ ∀ s', Inv C b { S with fin := x } s' → Q .next vars s') : RX (xSet .builder 2 (eVar k) f) vars σ Q :=
  RX.bset (h.mono fun v s q => by obtain ⟨S, x, I, hv, rfl, q⟩ := q; exact ⟨S, { S with fin := x }, I, hv, by decide, rfl, ⟨rfl, rfl, rfl, rfl, rfl, rfl⟩, q⟩)
theorem RX.sOe {k : Nat} {f : Ev} {Q : Fl → Vars → AH → Prop} (h : RE f vars σ fun v s => ∃ S, Inv C b S s ∧ (vars[k]?).join = some (.obj b) ∧ ∀ s', Inv C b { S with oe := v } s' → Q .next vars s') : RX (xSet .builder 7 (eVar k) f) vars σ Q :=
  RX.bset (h.mono fun v s q => by obtain ⟨S, I, hv, q⟩ := q; exact ⟨S, { S with oe := v }, I, hv, by decide, rfl, ⟨rfl, rfl, rfl, rfl, rfl, rfl⟩, q⟩)
theorem RX.sVe {k : Nat} {f : Ev} {Q : Fl → Vars → AH → Prop} (h : RE f vars σ fun v s => ∃ S, Inv C b S s ∧ (vars[k]?).join = some (.obj b) ∧ ∀ s', Inv C b { S with ve := some v } s' → Q .next vars s') : RX (xSet .builder 9 (eVar k) f) vars σ Q :=
  RX.bset (h.mono fun v s q => by obtain ⟨S, I, hv, q⟩ := q; exact ⟨S, { S with ve := some v }, I, hv, by decide, rfl, ⟨rfl, rfl, rfl, rfl, rfl, rfl⟩, q⟩)
/-- the octets are turned -/
theorem Inv.bytes (I : Inv C b S σ) (bs : List UInt8) : Inv C b { S with bs := bs } (σ.set S.j (.ba bs)) := by
  have nb : S.j ≠ b := Ne.symm (ne_of_get I.inst I.ba (by intro e; cases e))
  have nd : S.j ≠ S.d := ne_of_get I.ba I.dict (by intro e; cases e)
  have nt : S.j ≠ S.t := ne_of_get I.ba I.tab (by rcases I.vtd with e | e <;> rw [e] <;> intro e <;> cases e)
  refine ⟨get_set I.inst nb, get_set I.dict nd, get_self I.ba, get_set I.tab nt, I.vtd, I.ntd, fun l xs e => ?_, I.cb, I.cj, I.ct, fun i ao e => ?_⟩
  · obtain ⟨x, y⟩ := I.lst l xs e
    exact ⟨get_set x (ne_of_get I.ba x (by intro e; cases e)), y⟩
  · refine get_set (I.keep i ao e) fun q => ?_
    rw [← q, I.cj] at e; cases e
/-- a new object beside it -/
theorem Inv.app (I : Inv C b S σ) (τ : AH) : Inv C b S (σ ++ τ) :=
  ⟨get_app I.inst, get_app I.dict, get_app I.ba, get_app I.tab, I.vtd, I.ntd, fun l xs e => ⟨get_app (I.lst l xs e).1, (I.lst l xs e).2⟩, I.cb, I.cj, I.ct, fun i ao e => get_app (I.keep i ao e)⟩
theorem Inv.lends (I : Inv C b S σ) : Mine.lends (.obj S.j) σ = some S.bs := by
  unfold Mine.lends
  dsimp only
  rw [I.ba]
theorem Inv.len (I : Inv C b S σ) (h : S.bs.length < 4611686018427387904) : fLen [.obj S.j] σ = some (.int S.bs.length, σ) := by
  unfold fLen
  dsimp only
  rw [I.lends]
  exact if_pos h
end
end Mine
-- a step of the evaluation of a meaning
local macro_rules | `(tactic| walk_at "pure") => `(tactic| (repeat (first | (with_reducible refine Mine.RX.seq ?_) | (with_reducible refine Mine.SK.next ?_) | (with_reducible refine Mine.SK.ret ?_) | (with_reducible refine Mine.SK.cont ?_) | (with_reducible refine Mine.LK.next ?_) | (with_reducible refine Mine.LK.cont ?_) | (with_reducible refine Mine.LK.ret ?_) | (with_reducible refine Mine.FK.next ?_) | (with_reducible refine Mine.FK.ret ?_) | (with_reducible refine Mine.RX.nil ?_) | (with_reducible refine Mine.RX.cont ?_) | (with_reducible refine Mine.RX.ite ?_) | (with_reducible refine Mine.RX.ret ?_) | (with_reducible refine Mine.RX.expr ?_) | (with_reducible refine Mine.RX.asg ?_) | (with_reducible refine Mine.RE.const ?_) | (with_reducible refine Mine.RE.st ?_) | (with_reducible refine Mine.RE.bin ?_) | (with_reducible refine Mine.RE.un ?_) | (with_reducible refine Mine.RE.cmp ?_) | (with_reducible refine Mine.RE.ite ?_) | (with_reducible refine Mine.RE.call ?_) | (with_reducible refine Mine.RE.meth ?_) | (with_reducible refine Mine.RE.list ?_) | (with_reducible refine Mine.RE.tup ?_) | (with_reducible refine Mine.RE.cut ?_) | (with_reducible refine Mine.RE.optSome ?_) | (with_reducible refine Mine.RE.optNone ?_) | (with_reducible refine Mine.RL.nil ?_) | (with_reducible refine Mine.RL.cons ?_) | (with_reducible refine Mine.RL.app ?_) | (with_reducible refine Mine.RB.val ?_) | (with_reducible refine Mine.RB.not ?_) | (with_reducible refine Mine.RB.cmp ?_) | (with_reducible refine Mine.RB.and ?_) | (with_reducible refine Mine.RB.or ?_) | (with_reducible refine Mine.RB.chain ?_) | (with_reducible refine Mine.RX.putCut ?_) | (with_reducible refine Mine.RX.put ?_) | (with_reducible refine Mine.RX.unp ?_) | (with_reducible refine Mine.RX.unpS ?_) | ((with_reducible refine' Mine.RE.var ?hv ?_); (case hv => exact rfl)) | ((with_reducible refine' Mine.RX.aug ?hv ?_); (case hv => exact rfl)) | ((with_reducible refine' Mine.RE.bslot (by assumption) ?hv ?hs ?hn ?_); (case hv => exact rfl); (case hs => exact rfl); (case hn => exact rfl)) | (with_reducible refine Mine.RE.cls ?_) | ((with_reducible refine' Mine.RC.s ?hv ?_); (case hv => exact rfl)) | ((with_reducible refine' Mine.RS.pure2 ?hv ?_); (case hv => exact rfl)) | ((with_reducible refine' Mine.RS.pure1 ?hv ?_); (case hv => exact rfl)) | ((with_reducible refine' Mine.RC.eq ?hv ?_); (case hv => exact rfl)) | ((with_reducible refine' Mine.RC.ne ?hv ?_); (case hv => exact rfl)) | (refine' ⟨true, Mine.Inv.sel (by assumption), ?_⟩) | (refine' ⟨_, _, rfl, by first | exact Mine.ca_64_bw | exact Mine.ca_78_bw | exact Mine.ca_92_bw | exact Mine.ca_106_bw | exact Mine.ca_120_bw | exact Mine.ca_134_bw | exact Mine.ca_146_bw | exact Mine.ca_158_bw | exact Mine.ca_64_lo | exact Mine.ca_64_hi | exact Mine.ca_64_pk | exact Mine.ca_106_lo | exact Mine.ca_106_hi | exact Mine.ca_106_pk | exact Mine.ca_120_lo | exact Mine.ca_120_hi | exact Mine.ca_120_pk | exact Mine.ca_134_lo | exact Mine.ca_134_hi | exact Mine.ca_134_pk | exact Mine.ca_146_lo | exact Mine.ca_146_hi | exact Mine.ca_146_pk | exact Mine.ca_158_lo | exact Mine.ca_158_hi | exact Mine.ca_158_pk | exact Mine.ca_749, ?_⟩) | (refine ⟨of_decide_eq_true rfl, ?_⟩) | (refine ⟨rfl, ?_⟩) | (refine' ⟨_, rfl, ?_⟩) | (refine Mine.IK.t ?_) | (refine Mine.IK.f ?_))))
namespace Mine
section
variable {C : Nat → Option AO} {b : Nat} {S : Bd} {σ : AH}
theorem head_spec (I : Inv C b S σ) : RF f_Builder_Head [.obj b] σ fun r s => r = .int S.head ∧ Inv C b S s := by
  refine RF.def rfl rfl ?_
  unfold x_Builder_Head
  walk_at "pure"
  exact I
theorem offset_spec (I : Inv C b S σ) (h : S.bs.length < 4611686018427387904) : RF f_Builder_Offset [.obj b] σ fun r s => r = .int (S.bs.length - S.head) ∧ s = σ := by
  refine RF.def rfl rfl ?_
  unfold x_Builder_Offset
  walk_at "pure"
  refine RF.some (I.len h) ?_
  walk_at "pure"
  rfl
theorem assertNested_spec (I : Inv C b S σ) (h : S.nested = true) : RF f_Builder_assertNested [.obj b] σ fun r s => r = .none ∧ s = σ := by
  refine RF.def rfl rfl ?_
  unfold x_Builder_assertNested
  walk_at "pure"
  rw [h]
  walk_at "pure"
  rfl
theorem assertNotNested_spec (I : Inv C b S σ) (h : S.nested = false) : RF f_Builder_assertNotNested [.obj b] σ fun r s => r = .none ∧ s = σ := by
  refine RF.def rfl rfl ?_
  unfold x_Builder_assertNotNested
  walk_at "pure"
  rw [h]
  walk_at "pure"
  rfl
theorem enforce_spec {x : Addr} {n lo hi : Int} (hl : clsAttr x "min_val" = some (.int lo)) (hh : clsAttr x "max_val" = some (.int hi)) (h1 : lo ≤ n) (h2 : n ≤ hi) : RF f_enforce_number [.int n, .st (.ref x)] σ fun r s => r = .none ∧ s = σ := by
  refine RF.def rfl rfl ?_
  unfold x_enforce_number
  walk_at "pure"
  refine ⟨_, _, rfl, hl, ?_⟩
  walk_at "pure"
  refine ⟨_, _, rfl, hl, ?_⟩
  walk_at "pure"
  refine IK.dt h1 ?_
  walk_at "pure"
  refine ⟨_, _, rfl, hh, ?_⟩
  walk_at "pure"
  refine IK.nt h2 ?_
  walk_at "pure"
  rfl
end
end Mine
set_option maxRecDepth 100000
namespace Mine
noncomputable def Bd.at (S : Bd) (j : Nat) (pre data : List UInt8) : Bd := { S with j := j, head := pre.length, bs := pre ++ data }
/-- a builder with so many octets free and these written -/
noncomputable def BI (C : Nat → Option AO) (b : Nat) (S : Bd) (room : Nat) (data : List UInt8) (σ : AH) : Prop := ∃ j pre, room ≤ pre.length ∧ pre.length + data.length ≤ 2097152 ∧ Inv C b (S.at j pre data) σ
theorem putAt_mid (p1 p2 d r : List UInt8) (h : r.length = p2.length) : putAt (p1 ++ p2 ++ d) p1.length r = p1 ++ (r ++ d) := by
  unfold putAt
  rw [h]
  simp [List.append_assoc]
theorem split_pre {pre : List UInt8} {n r : Nat} (h : r + n ≤ pre.length) : ∃ p1 p2, pre = p1 ++ p2 ∧ p2.length = n ∧ r ≤ p1.length :=
  ⟨pre.take (pre.length - n), pre.drop (pre.length - n), (List.take_append_drop _ _).symm, by simp; lia, by simp; lia⟩
section
variable {C : Nat → Option AO} {b : Nat} {S : Bd} {σ : AH} {room : Nat} {data : List UInt8}
theorem write_spec (I : Inv C b S σ) {x : Addr} {c : Char} {u : UInt8} {n : Nat} {k v : Int} (hx : stOf x = some (c, u, n)) (h0 : 0 ≤ k) (hk : k.toNat + n ≤ S.bs.length) (hb : S.bs.length ≤ 16777216) (h1 : loC c n ≤ v) (h2 : v ≤ hiC c n) :
    RF f_Write [.st (.ref x), .obj S.j, .int k, .int v] σ fun r s => r = .none ∧ Inv C b { S with bs := putAt S.bs k.toNat (leBytes n v) } s := by
  refine RF.def rfl rfl ?_
  unfold x_Write
  walk_at "pure"
  refine ⟨true, by show (stOf x).map _ = _; rw [hx]; rfl, ?_⟩
  walk_at "pure"
  refine RF.some (a := .none) (s := σ.set S.j (.ba (putAt S.bs k.toNat (leBytes n v)))) ?_ ?_
  · show fPack [.st (.ref x), .obj S.j, .int k, .int v] σ = _
    unfold fPack
    dsimp only
    rw [hx, I.ba]
    exact if_pos ⟨h0, hk, hb, h1, h2⟩
  · walk_at "pure"
    exact I.bytes _
/-- the three ways to place a number -/
theorem place_spec {n : Nat} (I : BI C b S (room + n) data σ) {x y : Addr} {c : Char} {u : UInt8} {v lo hi : Int} (hbw : clsAttr x "bytewidth" = some (.int n)) (hlo : clsAttr x "min_val" = some (.int lo)) (hhi : clsAttr x "max_val" = some (.int hi))
    (hpk : clsAttr x "packer_type" = some (.st (.ref y))) (hx : stOf y = some (c, u, n)) (e1 : loC c n = lo) (e2 : hiC c n = hi) (h1 : lo ≤ v) (h2 : v ≤ hi) :
    RF f_Builder_Place [.obj b, .int v, .st (.ref x)] σ fun r s => r = .none ∧ BI C b S room (leBytes n v ++ data) s := by
  obtain ⟨j, pre, hr, hc, I⟩ := I
  obtain ⟨p1, p2, rfl, hp2, hp1⟩ := split_pre hr
  refine RF.def rfl rfl ?_
  unfold x_Builder_Place
  walk_at "pure"
  refine RF.mono (enforce_spec hlo hhi h1 h2) ?_
  rintro _ _ ⟨rfl, rfl⟩
  walk_at "pure"
  refine ⟨_, _, rfl, hbw, ?_⟩
  walk_at "pure"
  refine RX.sHead (RE.var rfl ⟨_, _, I, rfl, rfl, fun s' I' => ?_⟩)
  walk_at "pure"
  refine ⟨_, _, rfl, hpk, ?_⟩
  walk_at "pure"
  have hh : ((p1 ++ p2).length : Int) - (n : Int) = (p1.length : Int) := by rw [List.length_append, hp2]; lia
  refine RF.mono (write_spec I' hx ?_ ?_ ?_ ?_ ?_) ?_
  · show 0 ≤ ((p1 ++ p2).length : Int) - (n : Int)
    lia
  · show (((p1 ++ p2).length : Int) - (n : Int)).toNat + n ≤ (p1 ++ p2 ++ data).length
    rw [hh]
    simp; lia
  · show (p1 ++ p2 ++ data).length ≤ 16777216
    simp at hc ⊢; lia
  · lia
  · lia
  rintro _ s ⟨rfl, I2⟩
  walk_at "pure"
  refine ⟨j, p1, hp1, ?_, ?_⟩
  · rw [List.length_append, leBytes_length]
    simp at hc ⊢; lia
  · have e : putAt (p1 ++ p2 ++ data) (((p1 ++ p2).length : Int) - (n : Int)).toNat (leBytes n v) = p1 ++ (leBytes n v ++ data) := by
      rw [hh]
      exact putAt_mid p1 p2 data _ (by rw [leBytes_length, hp2])
    have e2 : (S.at j p1 (leBytes n v ++ data)) = { (S.at j (p1 ++ p2) data) with head := ((p1 ++ p2).length : Int) - (n : Int), bs := putAt (p1 ++ p2 ++ data) (((p1 ++ p2).length : Int) - (n : Int)).toNat (leBytes n v) } := by
      rw [e, hh]; rfl
    rw [e2]
    exact I2
theorem placeS_spec (I : BI C b S (room + 4) data σ) {v : Int} (h1 : -2147483648 ≤ v) (h2 : v ≤ 2147483647) :
    RF f_Builder_PlaceSOffsetT [.obj b, .int v] σ fun r s => r = .none ∧ BI C b S room (leBytes 4 v ++ data) s := by
  obtain ⟨j, pre, hr, hc, I⟩ := I
  obtain ⟨p1, p2, rfl, hp2, hp1⟩ := split_pre hr
  refine RF.def rfl rfl ?_
  unfold x_Builder_PlaceSOffsetT
  walk_at "pure"
  refine RF.mono (enforce_spec ca_134_lo ca_134_hi h1 h2) ?_
  rintro _ _ ⟨rfl, rfl⟩
  walk_at "pure"
  refine RX.sHead (RE.var rfl ⟨_, _, I, rfl, rfl, fun s' I' => ?_⟩)
  walk_at "pure"
  have hh : ((p1 ++ p2).length : Int) - 4 = (p1.length : Int) := by rw [List.length_append, hp2]; lia
  refine RF.mono (write_spec I' (x := 54) rfl ?_ ?_ ?_ ?_ ?_) ?_
  · show 0 ≤ ((p1 ++ p2).length : Int) - 4
    lia
  · show (((p1 ++ p2).length : Int) - 4).toNat + 4 ≤ (p1 ++ p2 ++ data).length
    rw [hh]
    simp; lia
  · show (p1 ++ p2 ++ data).length ≤ 16777216
    simp at hc ⊢; lia
  · exact h1
  · exact h2
  rintro _ s ⟨rfl, I2⟩
  walk_at "pure"
  refine ⟨j, p1, hp1, ?_, ?_⟩
  · rw [List.length_append, leBytes_length]
    simp at hc ⊢; lia
  · have e : putAt (p1 ++ p2 ++ data) (((p1 ++ p2).length : Int) - 4).toNat (leBytes 4 v) = p1 ++ (leBytes 4 v ++ data) := by
      rw [hh]
      exact putAt_mid p1 p2 data _ (by rw [leBytes_length, hp2])
    have e2 : (S.at j p1 (leBytes 4 v ++ data)) = { (S.at j (p1 ++ p2) data) with head := ((p1 ++ p2).length : Int) - 4, bs := putAt (p1 ++ p2 ++ data) (((p1 ++ p2).length : Int) - 4).toNat (leBytes 4 v) } := by
      rw [e, hh]; rfl
    rw [e2]
    exact I2
theorem placeU_spec (I : BI C b S (room + 4) data σ) {v : Int} (h1 : 0 ≤ v) (h2 : v ≤ 4294967295) :
    RF f_Builder_PlaceUOffsetT [.obj b, .int v] σ fun r s => r = .none ∧ BI C b S room (leBytes 4 v ++ data) s := by
  obtain ⟨j, pre, hr, hc, I⟩ := I
  obtain ⟨p1, p2, rfl, hp2, hp1⟩ := split_pre hr
  refine RF.def rfl rfl ?_
  unfold x_Builder_PlaceUOffsetT
  walk_at "pure"
  refine RF.mono (enforce_spec ca_146_lo ca_146_hi h1 h2) ?_
  rintro _ _ ⟨rfl, rfl⟩
  walk_at "pure"
  refine RX.sHead (RE.var rfl ⟨_, _, I, rfl, rfl, fun s' I' => ?_⟩)
  walk_at "pure"
  have hh : ((p1 ++ p2).length : Int) - 4 = (p1.length : Int) := by rw [List.length_append, hp2]; lia
  refine RF.mono (write_spec I' (x := 52) rfl ?_ ?_ ?_ ?_ ?_) ?_
  · show 0 ≤ ((p1 ++ p2).length : Int) - 4
    lia
  · show (((p1 ++ p2).length : Int) - 4).toNat + 4 ≤ (p1 ++ p2 ++ data).length
    rw [hh]
    simp; lia
  · show (p1 ++ p2 ++ data).length ≤ 16777216
    simp at hc ⊢; lia
  · exact h1
  · exact h2
  rintro _ s ⟨rfl, I2⟩
  walk_at "pure"
  refine ⟨j, p1, hp1, ?_, ?_⟩
  · rw [List.length_append, leBytes_length]
    simp at hc ⊢; lia
  · have e : putAt (p1 ++ p2 ++ data) (((p1 ++ p2).length : Int) - 4).toNat (leBytes 4 v) = p1 ++ (leBytes 4 v ++ data) := by
      rw [hh]
      exact putAt_mid p1 p2 data _ (by rw [leBytes_length, hp2])
    have e2 : (S.at j p1 (leBytes 4 v ++ data)) = { (S.at j (p1 ++ p2) data) with head := ((p1 ++ p2).length : Int) - 4, bs := putAt (p1 ++ p2 ++ data) (((p1 ++ p2).length : Int) - 4).toNat (leBytes 4 v) } := by
      rw [e, hh]; rfl
    rw [e2]
    exact I2
end
end Mine
set_option maxRecDepth 100000
namespace Mine
section
variable {C : Nat → Option AO} {b : Nat} {S : Bd} {σ : AH} {room : Nat} {data : List UInt8}
theorem Inv.fresh (I : Inv C b S σ) : C σ.length = none := by
  cases e : C σ.length with
  | none => rfl
  | some ao => exact absurd (List.getElem?_eq_some_iff.mp (I.keep _ _ e)).1 (Nat.lt_irrefl _)
theorem get_end {σ : AH} {x : AO} : (σ ++ [x])[σ.length]? = some x := by rw [List.getElem?_append_right (Nat.le_refl _)]; simp
/-- other octets -/
theorem Inv.rebyte (I : Inv C b S σ) {n : Nat} {bs : List UInt8} (h : σ[n]? = some (.ba bs)) (hn : C n = none) : ∃ s, Mine.setSlot .builder 0 (.obj b) (.obj n) σ = some s ∧ Inv C b { S with j := n, bs := bs } s := by
  refine ⟨σ.set b (.inst .builder S.d ({ S with j := n, bs := bs } : Bd).sl), ?_, ?_⟩
  · unfold Mine.setSlot
    rw [I.of]
    show (if 0 < S.sl.length then some (σ.set b (.inst .builder S.d (S.sl.set 0 (some (.obj n))))) else none) = _
    rw [if_pos (of_decide_eq_true rfl)]
    rfl
  have nd : b ≠ S.d := ne_of_get I.inst I.dict (by intro e; cases e)
  have nj : b ≠ n := ne_of_get I.inst h (by intro e; cases e)
  have nt : b ≠ S.t := ne_of_get I.inst I.tab (by rcases I.vtd with e | e <;> rw [e] <;> intro e <;> cases e)
  refine ⟨get_self I.inst, get_set I.dict nd, get_set h nj, get_set I.tab nt, I.vtd, I.ntd, fun l xs e => ?_, I.cb, hn, I.ct, fun i ao e => ?_⟩
  · obtain ⟨x, y⟩ := I.lst l xs e
    exact ⟨get_set x (ne_of_get I.inst x (by intro e; cases e)), y⟩
  · refine get_set (I.keep i ao e) fun q => ?_
    rw [← q, I.cb] at e; cases e
theorem Inv.other (I : Inv C b S σ) {n : Nat} {a x : AO} (h : σ[n]? = some a) (hn : C n = none) (nb : n ≠ b) (nd : n ≠ S.d) (nj : n ≠ S.j) (nt : n ≠ S.t) (nl : ∀ l xs, S.vl = some (l, xs) → n ≠ l) : Inv C b S (σ.set n x) :=
  ⟨get_set I.inst nb, get_set I.dict nd, get_set I.ba nj, get_set I.tab nt, I.vtd, I.ntd, fun l xs e => ⟨get_set (I.lst l xs e).1 (nl l xs e), (I.lst l xs e).2⟩, I.cb, I.cj, I.ct, fun i ao e => get_set (I.keep i ao e) fun q => by rw [← q, hn] at e; cases e⟩
theorem fMin_eq (a b : Int) : fMin [.int a, .int b] σ = some (.int (if b < a then b else a), σ) := rfl
noncomputable def growN (L : Nat) : Nat := if L = 0 then 1 else L
theorem grow_spec (I : Inv C b S σ) (hL : S.bs.length ≤ 1048576) : RF f_Builder_GrowByteBuffer [.obj b] σ fun r s => r = .none ∧ ∃ j, Inv C b { S with j := j, bs := List.replicate (growN S.bs.length) 0 ++ S.bs } s := by
  refine RF.def rfl rfl ?_
  unfold x_Builder_GrowByteBuffer
  have hlen := I.len (by lia)
  walk_at "pure"
  refine RF.some hlen ?_
  walk_at "pure"
  refine IK.bf (by lia) ?_
  walk_at "pure"
  refine RF.some hlen ?_
  walk_at "pure"
  refine RS.mulR (by decide) ?_
  walk_at "pure"
  refine RF.some (fMin_eq _ _) ?_
  rw [if_neg (by lia)]
  walk_at "pure"
  have hg : growN S.bs.length ≤ 1048576 ∧ 1 ≤ growN S.bs.length := by unfold growN; split <;> lia
  by_cases h0 : S.bs.length = 0
  · refine IK.bt (by lia) ?_
    walk_at "pure"
    rw [show (1 : Int) = ((growN S.bs.length + S.bs.length : Nat) : Int) by unfold growN; rw [if_pos h0, h0]; rfl]
    refine RF.some (a := .obj σ.length) (s := σ ++ [.ba (List.replicate (growN S.bs.length + S.bs.length) 0)]) ?_ ?_
    · show fBa [.int ((growN S.bs.length + S.bs.length : Nat) : Int)] σ = _
      unfold fBa
      dsimp only
      rw [if_pos (by lia), Int.toNat_natCast]
    walk_at "pure"
    have I1 : Inv C b S (σ ++ [.ba (List.replicate (growN S.bs.length + S.bs.length) 0)]) := I.app _
    walk_at "pure"
    refine RF.some (I1.len (by lia)) ?_
    walk_at "pure"
    have hnb : σ.length ≠ b := fun e => by
      have := (List.getElem?_eq_some_iff.mp I.inst).1
      lia
    have hnj : σ.length ≠ S.j := fun e => by
      have := (List.getElem?_eq_some_iff.mp I.ba).1
      lia
    have hnd : σ.length ≠ S.d := fun e => by
      have := (List.getElem?_eq_some_iff.mp I.dict).1
      lia
    have hnt : σ.length ≠ S.t := fun e => by
      have := (List.getElem?_eq_some_iff.mp I.tab).1
      lia
    have I2 : Inv C b S ((σ ++ [AO.ba (List.replicate (growN S.bs.length + S.bs.length) 0)]).set σ.length (.ba (List.replicate (growN S.bs.length) 0 ++ S.bs))) :=
      I1.other get_end I.fresh hnb hnd hnj hnt fun l xs e q => by
        have := (List.getElem?_eq_some_iff.mp (I.lst l xs e).1).1
        lia
    refine ⟨some (growN S.bs.length), none, (σ ++ [AO.ba (List.replicate (growN S.bs.length + S.bs.length) 0)]).set σ.length (.ba (List.replicate (growN S.bs.length) 0 ++ S.bs)), ?_, rfl, ?_, ?_⟩
    · show (if (0 : Int) ≤ ((growN S.bs.length + S.bs.length : Nat) : Int) - (S.bs.length : Int) then some (some (((growN S.bs.length + S.bs.length : Nat) : Int) - (S.bs.length : Int)).toNat) else none) = _
      rw [if_pos (by lia)]
      congr 2
      lia
    · show putCut (.obj σ.length) (some (growN S.bs.length)) none (.obj S.j) (σ ++ [.ba (List.replicate (growN S.bs.length + S.bs.length) 0)]) = _
      unfold putCut
      dsimp only
      rw [get_end]
      dsimp only
      rw [I1.ba]
      dsimp only
      simp only [List.length_replicate, Option.getD_some, Option.getD_none]
      rw [if_pos (by lia), if_pos ⟨hnj, by lia⟩]
      congr 3
      simp
    walk_at "pure"
    obtain ⟨s, es, I3⟩ := I2.rebyte (get_self get_end) I.fresh
    refine RX.set (RE.var rfl (RE.var rfl ⟨s, es, ?_⟩))
    walk_at "pure"
    exact ⟨_, I3⟩
  · refine IK.bf (by lia) ?_
    walk_at "pure"
    rw [show (S.bs.length : Int) * 2 = ((growN S.bs.length + S.bs.length : Nat) : Int) by unfold growN; rw [if_neg h0]; lia]
    refine RF.some (a := .obj σ.length) (s := σ ++ [.ba (List.replicate (growN S.bs.length + S.bs.length) 0)]) ?_ ?_
    · show fBa [.int ((growN S.bs.length + S.bs.length : Nat) : Int)] σ = _
      unfold fBa
      dsimp only
      rw [if_pos (by lia), Int.toNat_natCast]
    walk_at "pure"
    have I1 : Inv C b S (σ ++ [.ba (List.replicate (growN S.bs.length + S.bs.length) 0)]) := I.app _
    walk_at "pure"
    refine RF.some (I1.len (by lia)) ?_
    walk_at "pure"
    have hnb : σ.length ≠ b := fun e => by
      have := (List.getElem?_eq_some_iff.mp I.inst).1
      lia
    have hnj : σ.length ≠ S.j := fun e => by
      have := (List.getElem?_eq_some_iff.mp I.ba).1
      lia
    have hnd : σ.length ≠ S.d := fun e => by
      have := (List.getElem?_eq_some_iff.mp I.dict).1
      lia
    have hnt : σ.length ≠ S.t := fun e => by
      have := (List.getElem?_eq_some_iff.mp I.tab).1
      lia
    have I2 : Inv C b S ((σ ++ [AO.ba (List.replicate (growN S.bs.length + S.bs.length) 0)]).set σ.length (.ba (List.replicate (growN S.bs.length) 0 ++ S.bs))) :=
      I1.other get_end I.fresh hnb hnd hnj hnt fun l xs e q => by
        have := (List.getElem?_eq_some_iff.mp (I.lst l xs e).1).1
        lia
    refine ⟨some (growN S.bs.length), none, (σ ++ [AO.ba (List.replicate (growN S.bs.length + S.bs.length) 0)]).set σ.length (.ba (List.replicate (growN S.bs.length) 0 ++ S.bs)), ?_, rfl, ?_, ?_⟩
    · show (if (0 : Int) ≤ ((growN S.bs.length + S.bs.length : Nat) : Int) - (S.bs.length : Int) then some (some (((growN S.bs.length + S.bs.length : Nat) : Int) - (S.bs.length : Int)).toNat) else none) = _
      rw [if_pos (by lia)]
      congr 2
      lia
    · show putCut (.obj σ.length) (some (growN S.bs.length)) none (.obj S.j) (σ ++ [.ba (List.replicate (growN S.bs.length + S.bs.length) 0)]) = _
      unfold putCut
      dsimp only
      rw [get_end]
      dsimp only
      rw [I1.ba]
      dsimp only
      simp only [List.length_replicate, Option.getD_some, Option.getD_none]
      rw [if_pos (by lia), if_pos ⟨hnj, by lia⟩]
      congr 3
      simp
    walk_at "pure"
    obtain ⟨s, es, I3⟩ := I2.rebyte (get_self get_end) I.fresh
    refine RX.set (RE.var rfl (RE.var rfl ⟨s, es, ?_⟩))
    walk_at "pure"
    exact ⟨_, I3⟩
theorem flat_rep (n : Nat) : (List.replicate n [(0 : UInt8)]).flatten = List.replicate n 0 := by
  induction n with
  | zero => rfl
  | succ n ih => rw [List.replicate_succ, List.flatten_cons, ih]; rfl
theorem pad_spec {j : Nat} {p1 p2 : List UInt8} (I : Inv C b (S.at j (p1 ++ p2) data) σ) (hc : (p1 ++ p2).length + data.length ≤ 2097152) (h8 : p2.length ≤ 1000) :
    RF f_Builder_Pad [.obj b, .int p2.length] σ fun r s => r = .none ∧ Inv C b (S.at j p1 (List.replicate p2.length 0 ++ data)) s := by
  refine RF.def rfl rfl ?_
  unfold x_Builder_Pad
  walk_at "pure"
  by_cases h0 : p2.length = 0
  · refine IK.dt (by lia) ?_
    walk_at "pure"
    have e2 : p2 = [] := List.eq_nil_of_length_eq_zero h0
    subst e2
    simpa using I
  · refine IK.df (by lia) ?_
    walk_at "pure"
    refine RS.some (a := .bytes (List.replicate p2.length 0)) (s := σ) ?_ ?_
    · show fRep (.bytes [0]) (.int p2.length) σ = _
      unfold fRep
      dsimp only
      rw [if_pos ⟨by decide, by decide, by lia, by lia⟩, Int.toNat_natCast, flat_rep]
    walk_at "pure"
    have hh : ((p1 ++ p2).length : Int) - (p2.length : Int) = (p1.length : Int) := by rw [List.length_append]; lia
    refine ⟨some p1.length, some (p1 ++ p2).length, σ.set j (.ba (p1 ++ (List.replicate p2.length 0 ++ data))), ?_, ?_, ?_, ?_⟩
    · show (if (0 : Int) ≤ ((p1 ++ p2).length : Int) - (p2.length : Int) then some (some (((p1 ++ p2).length : Int) - (p2.length : Int)).toNat) else none) = _
      rw [hh, if_pos (by lia)]
      simp
    · show (if (0 : Int) ≤ ((p1 ++ p2).length : Int) then some (some ((p1 ++ p2).length : Int).toNat) else none) = _
      rw [if_pos (by lia), Int.toNat_natCast]
    · show putCut (.obj j) (some p1.length) (some (p1 ++ p2).length) (.bytes (List.replicate p2.length 0)) σ = _
      unfold putCut
      dsimp only
      rw [show σ[j]? = some (.ba (p1 ++ p2 ++ data)) from I.ba]
      dsimp only
      simp only [Option.getD_some]
      rw [if_pos (by simp at hc ⊢; lia), if_pos (by simp)]
      congr 3
      simp [List.append_assoc]
    have I1 := I.bytes (p1 ++ (List.replicate p2.length 0 ++ data))
    walk_at "pure"
    refine RX.sHead (RE.var rfl ⟨_, _, I1, rfl, rfl, fun s' I' => ?_⟩)
    walk_at "pure"
    have I3 : Inv C b { (S.at j p1 (List.replicate p2.length 0 ++ data)) with head := ((p1 ++ p2).length : Int) - (p2.length : Int) } s' := I'
    rw [hh] at I3
    exact I3
noncomputable def padN (n size : Nat) : Nat := (size - n % size) % size
theorem bitpad {n size : Nat} (hs : size = 1 ∨ size = 2 ∨ size = 4 ∨ size = 8) : Builtin.bitAnd (Builtin.bitNot (n : Int) + 1) ((size : Int) - 1) = (padN n size : Int) := by
  have e : Builtin.bitNot (n : Int) + 1 = -(n : Int) := by unfold Builtin.bitNot; lia
  rw [e]
  unfold padN
  rcases hs with rfl | rfl | rfl | rfl
  · show Builtin.bitAnd _ 0 = _
    rw [bitAnd_zero]; lia
  · show Builtin.bitAnd _ 1 = _
    rw [bitAnd_m1]; lia
  · show Builtin.bitAnd _ 3 = _
    rw [bitAnd_m2]; lia
  · show Builtin.bitAnd _ 7 = _
    rw [bitAnd_m3]; lia
noncomputable def maxI (a b : Int) : Int := if a < b then b else a
theorem prep_loop {h0 sz ad al need : Int} {C : Nat → Option AO} {b : Nat} {S : Bd} {data : List UInt8} {Q : Fl → Vars → AH → Prop} (hneed : need + data.length ≤ 1000000)
    (q : ∀ (j : Nat) (pre : List UInt8) (w : Option AV) (s : AH), need ≤ pre.length → pre.length + data.length ≤ 2097152 → Inv C b { S with j := j, head := h0, bs := pre ++ data } s →
      Q .next [some (.obj b), some (.int sz), some (.int ad), some (.int pre.length), some (.int (pre.length + data.length : Nat)), some (.int al), some (.int need), w] s) :
    ∀ (n : Nat) (j : Nat) (pre : List UInt8) (w : Option AV) (s : AH), (pre.length + data.length ≠ 0 → need + data.length ≤ ((pre.length + data.length) * 2 ^ n : Nat)) → (pre.length + data.length = 0 → 2 * need ≤ (2 ^ n : Nat)) → pre.length + data.length ≤ 2097152 →
      Inv C b { S with j := j, head := h0, bs := pre ++ data } s →
      RX (whileF (bCmp mLt (eVar 3) (eVar 6)) (xSeq (xAsg 7 (eVar 4)) (xSeq (xExpr (eMeth (eVar 0) (selI .builder) ([] ++ []) f_Builder_GrowByteBuffer)) (xSeq (xAsg 4 (eCall ([(eAttr (eVar 0) (semSlot .builder 0))] ++ []) fLen)) (xSeq (xAug 3 mIAdd (eBin mSub (eVar 4) (eVar 7))) xNil)))) (n + 1))
        [some (.obj b), some (.int sz), some (.int ad), some (.int pre.length), some (.int (pre.length + data.length : Nat)), some (.int al), some (.int need), w] s Q := by
  intro n
  induction n with
  | zero =>
    intro j pre w s h1 h2 h3 I
    refine RX.while ?_
    walk_at "pure"
    refine IK.df ?_ ?_
    · by_cases hz : pre.length + data.length = 0
      · have := h2 hz
        simp at this
        lia
      · have := h1 hz
        simp at this
        lia
    · by_cases hz : pre.length + data.length = 0
      · have := h2 hz
        simp at this
        exact q j pre w s (by lia) h3 I
      · have := h1 hz
        simp at this
        exact q j pre w s (by lia) h3 I
  | succ n ih =>
    intro j pre w s h1 h2 h3 I
    refine RX.while ?_
    walk_at "pure"
    by_cases hd : (pre.length : Int) < need
    · refine IK.dt hd ?_
      walk_at "pure"
      refine RF.mono (grow_spec I (by simp; lia)) ?_
      rintro _ s1 ⟨rfl, j1, I1⟩
      walk_at "pure"
      have hg : growN (pre ++ data).length = growN (pre.length + data.length) := by rw [List.length_append]
      have hgn : growN (pre.length + data.length) ≤ 1048576 := by unfold growN; split <;> lia
      have hl : ((List.replicate (growN (pre ++ data).length) (0 : UInt8)) ++ (pre ++ data)).length = growN (pre.length + data.length) + (pre.length + data.length) := by rw [hg]; simp
      have I2 : Inv C b { S with j := j1, head := h0, bs := (List.replicate (growN (pre.length + data.length)) 0 ++ pre) ++ data } s1 := by
        rw [List.append_assoc, ← hg]; exact I1
      have hlen : ((List.replicate (growN (pre.length + data.length)) (0 : UInt8) ++ pre) ++ data).length = growN (pre.length + data.length) + (pre.length + data.length) := by simp [Nat.add_assoc]
      refine RF.some (I2.len (by rw [hlen]; lia)) ?_
      walk_at "pure"
      have e1 : (((List.replicate (growN (pre.length + data.length)) (0 : UInt8) ++ pre) ++ data).length : Int) = (((List.replicate (growN (pre.length + data.length)) (0 : UInt8) ++ pre).length + data.length : Nat) : Int) := by rw [List.length_append]
      have e2 : (pre.length : Int) + ((((List.replicate (growN (pre.length + data.length)) (0 : UInt8) ++ pre) ++ data).length : Int) - ((pre.length + data.length : Nat) : Int)) = ((List.replicate (growN (pre.length + data.length)) (0 : UInt8) ++ pre).length : Int) := by rw [hlen, List.length_append, List.length_replicate]; lia
      show RX _ [some (.obj b), some (.int sz), some (.int ad), some (.int ((pre.length : Int) + ((((List.replicate (growN (pre.length + data.length)) (0 : UInt8) ++ pre) ++ data).length : Int) - ((pre.length + data.length : Nat) : Int)))), some (.int (((List.replicate (growN (pre.length + data.length)) (0 : UInt8) ++ pre) ++ data).length : Int)), some (.int al), some (.int need), some (.int ((pre.length + data.length : Nat) : Int))] s1 Q
      rw [e2, e1]
      refine ih j1 _ _ s1 ?_ ?_ ?_ I2
      · intro _
        by_cases hz : pre.length + data.length = 0
        · have h4 := h2 hz
          have e3 : (List.replicate (growN (pre.length + data.length)) (0 : UInt8) ++ pre).length + data.length = 1 := by rw [List.length_append, List.length_replicate, hz]; show 1 + pre.length + data.length = 1; lia
          rw [e3, Nat.one_mul]
          rw [Nat.pow_succ] at h4
          lia
        · have h4 := h1 hz
          have e3 : (List.replicate (growN (pre.length + data.length)) (0 : UInt8) ++ pre).length + data.length = (pre.length + data.length) * 2 := by rw [List.length_append, List.length_replicate]; unfold growN; rw [if_neg hz]; lia
          rw [e3]
          rw [Nat.pow_succ] at h4
          rw [Nat.mul_assoc, Nat.mul_comm 2]
          exact h4
      · intro hz
        have : 1 ≤ growN (pre.length + data.length) := by unfold growN; split <;> lia
        simp at hz
        lia
      · simp
        by_cases hz : pre.length + data.length = 0
        · unfold growN; rw [if_pos hz]; lia
        · unfold growN; rw [if_neg hz]; lia
    · refine IK.df hd ?_
      exact q j pre w s (by lia) h3 I
theorem prep_spec {C : Nat → Option AO} {b : Nat} {S : Bd} {σ : AH} {data : List UInt8} {size add r : Nat} (I : BI C b S r data σ) (hs : size = 1 ∨ size = 2 ∨ size = 4 ∨ size = 8) (hd : data.length + add ≤ 900000) :
    RF f_Builder_Prep [.obj b, .int size, .int add] σ fun r s => r = .none ∧ BI C b { S with ma := maxI S.ma size } (size + add) (List.replicate (padN (data.length + add) size) 0 ++ data) s := by
  obtain ⟨j, pre, _, hc, I⟩ := I
  refine RF.def rfl rfl ?_
  unfold x_Builder_Prep
  have hpn : padN (data.length + add) size < 8 ∧ padN (data.length + add) size < size := by
    unfold padN
    rcases hs with rfl | rfl | rfl | rfl <;> lia
  have rest : ∀ s1 : AH, Inv C b ({ S with ma := maxI S.ma size }.at j pre data) s1 →
      RX (xSeq (xAsg 3 (eAttr (eVar 0) (semSlot .builder 4))) (xSeq (xAsg 4 (eCall ([(eAttr (eVar 0) (semSlot .builder 0))] ++ []) fLen)) (xSeq (xAsg 5 (eBin mAdd (eUn mInv (eBin mAdd (eBin mSub (eVar 4) (eVar 3)) (eVar 2))) (eConst (.int 1)))) (xSeq (xAug 5 mBitAnd (eBin mSub (eVar 1) (eConst (.int 1)))) (xSeq (xAsg 6 (eBin mAdd (eBin mAdd (eVar 5) (eVar 1)) (eVar 2))) (xSeq (whileF (bCmp mLt (eVar 3) (eVar 6)) (xSeq (xAsg 7 (eVar 4)) (xSeq (xExpr (eMeth (eVar 0) (selI .builder) ([] ++ []) f_Builder_GrowByteBuffer)) (xSeq (xAsg 4 (eCall ([(eAttr (eVar 0) (semSlot .builder 0))] ++ []) fLen)) (xSeq (xAug 3 mIAdd (eBin mSub (eVar 4) (eVar 7))) xNil)))) 40) (xSeq (xSet .builder 4 (eVar 0) (eVar 3)) (xSeq (xExpr (eMeth (eVar 0) (selI .builder) ([(eVar 5)] ++ []) f_Builder_Pad)) xNil))))))))
        [some (.obj b), some (.int size), some (.int add), none, none, none, none, none] s1 (FK fun r s => r = .none ∧ BI C b { S with ma := maxI S.ma size } (size + add) (List.replicate (padN (data.length + add) size) 0 ++ data) s) := by
    intro s1 I1
    have hlen := I1.len (by show (pre ++ data).length < _; simp; lia)
    walk_at "pure"
    refine RF.some hlen ?_
    walk_at "pure"
    have e1 : ((pre ++ data).length : Int) - (pre.length : Int) + (add : Int) = ((data.length + add : Nat) : Int) := by simp; lia
    have e2 : Builtin.bitAnd (Builtin.bitNot (((pre ++ data).length : Int) - (pre.length : Int) + (add : Int)) + 1) ((size : Int) - 1) = (padN (data.length + add) size : Int) := by rw [e1]; exact bitpad hs
    have e3 : (((pre ++ data).length : Nat) : Int) = ((pre.length + data.length : Nat) : Int) := by simp
    refine RX.mono (Q := SK _ _) ?_ fun _ _ _ h => h
    show RX _ [some (.obj b), some (.int size), some (.int add), some (.int (pre.length : Int)), some (.int ((pre ++ data).length : Int)), some (.int (Builtin.bitAnd (Builtin.bitNot (((pre ++ data).length : Int) - (pre.length : Int) + (add : Int)) + 1) ((size : Int) - 1))), some (.int (Builtin.bitAnd (Builtin.bitNot (((pre ++ data).length : Int) - (pre.length : Int) + (add : Int)) + 1) ((size : Int) - 1) + (size : Int) + (add : Int))), none] s1 _
    rw [e2, e3]
    refine prep_loop (h0 := pre.length) (S := { S with ma := maxI S.ma size }) (by lia) ?_ 39 j pre none s1 ?_ ?_ hc I1
    · intro j2 pre2 w s2 hn hc2 I2
      walk_at "pure"
      obtain ⟨p1, p2, hpp, hp2, hp1⟩ := split_pre (pre := pre2) (n := padN (data.length + add) size) (r := size + add) (by lia)
      subst hpp
      refine RX.sHead (RE.var rfl ⟨_, _, I2, rfl, rfl, fun s3 I3 => ?_⟩)
      walk_at "pure"
      have I4 : Inv C b ({ S with ma := maxI S.ma size }.at j2 (p1 ++ p2) data) s3 := I3
      rw [← hp2]
      refine RF.mono (pad_spec I4 hc2 (by lia)) ?_
      rintro _ s4 ⟨rfl, I5⟩
      walk_at "pure"
      refine ⟨j2, p1, hp1, ?_, I5⟩
      simp at hc2 ⊢
      lia
    · intro hz
      have : (1 : Nat) * 2 ^ 39 ≤ (pre.length + data.length) * 2 ^ 39 := Nat.mul_le_mul_right _ (by lia)
      have h39 : (2 : Nat) ^ 39 = 549755813888 := by decide
      rw [h39] at this ⊢
      lia
    · intro hz
      have h39 : (2 : Nat) ^ 39 = 549755813888 := by decide
      rw [h39]
      lia
  walk_at "pure"
  by_cases hm : S.ma < (size : Int)
  · refine IK.dt hm ?_
    walk_at "pure"
    refine RX.sMa (RE.var rfl ⟨_, _, I, rfl, rfl, fun s' I' => ?_⟩)
    refine SK.next (RX.nil (SK.next (rest s' ?_)))
    have e : maxI S.ma size = size := by unfold maxI; rw [if_pos hm]
    rw [e]
    exact I'
  · refine IK.df hm ?_
    refine RX.nil (SK.next (rest σ ?_))
    have e : maxI S.ma size = S.ma := by unfold maxI; rw [if_neg hm]
    rw [e]
    exact I
end
end Mine
set_option maxRecDepth 100000
namespace Mine
/-- octets with noughts ahead, so that with so many more they are a multiple -/
noncomputable def al (size add : Nat) (data : List UInt8) : List UInt8 := List.replicate (padN (data.length + add) size) 0 ++ data
theorem al_length (size add : Nat) (data : List UInt8) : (al size add data).length = padN (data.length + add) size + data.length := by simp [al]
theorem padN_lt {n size : Nat} (h : 0 < size) : padN n size < size := Nat.mod_lt _ h
section
variable {C : Nat → Option AO} {b : Nat} {S : Bd} {σ : AH} {r room : Nat} {data : List UInt8} {vars : Vars}
theorem BI.le (I : BI C b S room data σ) (h : r ≤ room) : BI C b S r data σ := let ⟨j, pre, a, c, I⟩ := I; ⟨j, pre, Nat.le_trans h a, c, I⟩
theorem BI.app (I : BI C b S room data σ) (τ : AH) : BI C b S room data (σ ++ τ) := let ⟨j, pre, a, c, I⟩ := I; ⟨j, pre, a, c, I.app τ⟩
theorem offset_bi (I : BI C b S r data σ) : RF f_Builder_Offset [.obj b] σ fun v s => v = .int data.length ∧ s = σ := by
  obtain ⟨j, pre, hr, hc, I⟩ := I
  refine RF.mono (offset_spec I (by show (pre ++ data).length < _; simp; lia)) ?_
  rintro _ _ ⟨rfl, rfl⟩
  refine ⟨?_, rfl⟩
  show AV.int (((pre ++ data).length : Int) - (pre.length : Int)) = _
  congr 1
  simp
  lia
theorem prep_bi {size add : Nat} (I : BI C b S r data σ) (hs : size = 1 ∨ size = 2 ∨ size = 4 ∨ size = 8) (hd : data.length + add ≤ 900000) :
    RF f_Builder_Prep [.obj b, .int size, .int add] σ fun r s => r = .none ∧ BI C b { S with ma := maxI S.ma size } (size + add) (al size add data) s := prep_spec I hs hd
theorem prependS_spec (I : BI C b S r data σ) (hd : data.length ≤ 900000) {off : Nat} (ho : off ≤ data.length) :
    RF f_Builder_PrependSOffsetTRelative [.obj b, .int off] σ fun v s => v = .none ∧ BI C b { S with ma := maxI S.ma 4 } 0 (leBytes 4 (((al 4 0 data).length : Int) - off + 4) ++ al 4 0 data) s := by
  obtain ⟨j, pre, hr, hc, I⟩ := I
  have hl := al_length 4 0 data
  have hp := padN_lt (n := data.length + 0) (size := 4) (by decide)
  refine RF.def rfl rfl ?_
  unfold x_Builder_PrependSOffsetTRelative
  walk_at "pure"
  refine RF.mono (prep_bi (size := 4) (add := 0) ⟨j, pre, hr, hc, I⟩ (by lia) (by lia)) ?_
  rintro _ s1 ⟨rfl, I1⟩
  obtain ⟨j1, pre1, hr1, hc1, J1⟩ := id I1
  walk_at "pure"
  refine RF.mono (offset_bi I1) ?_
  rintro _ _ ⟨rfl, rfl⟩
  walk_at "pure"
  refine IK.nt (by lia) ?_
  walk_at "pure"
  refine RF.mono (offset_bi I1) ?_
  rintro _ _ ⟨rfl, rfl⟩
  walk_at "pure"
  refine RF.mono (placeS_spec (room := 0) I1 (by lia) (by lia)) ?_
  rintro _ s2 ⟨rfl, I2⟩
  walk_at "pure"
  exact I2
theorem prependU_spec (I : BI C b S r data σ) (hd : data.length ≤ 900000) {off : Nat} (ho : off ≤ data.length) :
    RF f_Builder_PrependUOffsetTRelative [.obj b, .int off] σ fun v s => v = .none ∧ BI C b { S with ma := maxI S.ma 4 } 0 (leBytes 4 (((al 4 0 data).length : Int) - off + 4) ++ al 4 0 data) s := by
  obtain ⟨j, pre, hr, hc, I⟩ := I
  have hl := al_length 4 0 data
  have hp := padN_lt (n := data.length + 0) (size := 4) (by decide)
  refine RF.def rfl rfl ?_
  unfold x_Builder_PrependUOffsetTRelative
  walk_at "pure"
  refine RF.mono (prep_bi (size := 4) (add := 0) ⟨j, pre, hr, hc, I⟩ (by lia) (by lia)) ?_
  rintro _ s1 ⟨rfl, I1⟩
  obtain ⟨j1, pre1, hr1, hc1, J1⟩ := id I1
  walk_at "pure"
  refine RF.mono (offset_bi I1) ?_
  rintro _ _ ⟨rfl, rfl⟩
  walk_at "pure"
  refine IK.nt (by lia) ?_
  walk_at "pure"
  refine RF.mono (offset_bi I1) ?_
  rintro _ _ ⟨rfl, rfl⟩
  walk_at "pure"
  refine RF.mono (placeU_spec (room := 0) I1 (by lia) (by lia)) ?_
  rintro _ s2 ⟨rfl, I2⟩
  walk_at "pure"
  exact I2
/-- the row of slots -/
theorem RE.cv {k l : Nat} {xs : List AV} {Q : AV → AH → Prop} (I : Inv C b S σ) (hv : (vars[k]?).join = some (.obj b)) (hl : S.vl = some (l, xs)) (q : Q (.obj l) σ) : RE (eAttr (eVar k) (semSlot .builder 1)) vars σ Q := by
  have e : S.cv = .obj l := by unfold Bd.cv; rw [hl]
  exact RE.bslot I hv (a := .obj l) (by rw [← e]; rfl) rfl q
theorem Inv.turnVl (I : Inv C b S σ) {l : Nat} {xs ys : List AV} (hl : S.vl = some (l, xs)) : Inv C b { S with vl := some (l, ys) } (σ.set l (.list true ys)) := by
  obtain ⟨x, y⟩ := I.lst l xs hl
  have nb : l ≠ b := ne_of_get x I.inst (by intro e; cases e)
  have nd : l ≠ S.d := ne_of_get x I.dict (by intro e; cases e)
  have nj : l ≠ S.j := ne_of_get x I.ba (by intro e; cases e)
  have nt : l ≠ S.t := ne_of_get x I.tab (by rcases I.vtd with e | e <;> rw [e] <;> intro e <;> cases e)
  have e : S.cv = .obj l := by unfold Bd.cv; rw [hl]
  have esl : ({ S with vl := some (l, ys) } : Bd).sl = S.sl := by
    show [some (.obj S.j), some (.obj l), some (.bool S.fin), some (.bool false), some (.int S.head), some (.int S.ma), some (.bool S.nested), some S.oe, some .none, S.ve, some (.obj S.t)] = _
    rw [← e]
  refine ⟨?_, get_set I.dict nd, get_set I.ba nj, get_set I.tab nt, I.vtd, I.ntd, fun l' xs' e' => ?_, I.cb, I.cj, I.ct, fun i ao e => ?_⟩
  · rw [esl]; exact get_set I.inst nb
  · cases e'
    exact ⟨get_self x, y⟩
  · refine get_set (I.keep i ao e) fun q => ?_
    rw [← q, y] at e; cases e
theorem BI.turnVl (I : BI C b S room data σ) {l : Nat} {xs ys : List AV} (hl : S.vl = some (l, xs)) : BI C b { S with vl := some (l, ys) } room data (σ.set l (.list true ys)) := let ⟨j, pre, a, c, I⟩ := I; ⟨j, pre, a, c, I.turnVl hl⟩
theorem slot_spec (I : BI C b S r data σ) (hn : S.nested = true) {l k : Nat} {xs : List AV} (hl : S.vl = some (l, xs)) (hk : k < xs.length) (hx : xs.length < 100) :
    RF f_Builder_Slot [.obj b, .int k] σ fun v s => v = .none ∧ BI C b { S with vl := some (l, xs.set k (.int data.length)) } r data s := by
  have I0 := I
  obtain ⟨j, pre, hr, hc, I⟩ := I
  refine RF.def rfl rfl ?_
  unfold x_Builder_Slot
  walk_at "pure"
  refine RF.mono (assertNested_spec I hn) ?_
  rintro _ s ⟨rfl, rfl⟩
  walk_at "pure"
  refine RF.mono (offset_bi I0) ?_
  rintro _ s ⟨rfl, rfl⟩
  refine RE.cv I rfl hl ?_
  walk_at "pure"
  refine ⟨s.set l (.list true (xs.set k (.int data.length))), ?_, ?_⟩
  · show putItem (.obj l) (.int (k : Int)) (.int data.length) s = _
    unfold putItem
    dsimp only
    rw [(I.lst l xs hl).1]
    dsimp only
    rw [if_pos (by lia)]
    rfl
  · walk_at "pure"
    exact I0.turnVl hl
theorem setNested_bi {x : Bool} {f : Ev} {k : Nat} {Q : Fl → Vars → AH → Prop} (I : BI C b S room data σ) (hv : (vars[k]?).join = some (.obj b)) (q : ∀ s, BI C b { S with nested := x } room data s → Q .next vars s) : RX (xSet .builder 6 (eVar k) (eConst (.bool x))) vars σ Q := by
  obtain ⟨j, pre, hr, hc, I⟩ := I
  exact RX.sNested (RE.const ⟨_, _, I, hv, rfl, fun s' I' => q s' ⟨j, pre, hr, hc, I'⟩⟩)
theorem setVe_bi {x : AV} {f : Ev} {k : Nat} {Q : Fl → Vars → AH → Prop} (I : BI C b S room data σ) (hv : (vars[k]?).join = some (.obj b)) (hf : RE f vars σ fun v s => v = x ∧ s = σ) (q : ∀ s, BI C b { S with ve := some x } room data s → Q .next vars s) : RX (xSet .builder 9 (eVar k) f) vars σ Q := by
  obtain ⟨j, pre, hr, hc, I⟩ := I
  refine RX.sVe (C := C) (b := b) (hf.mono ?_)
  rintro _ _ ⟨rfl, rfl⟩
  exact ⟨_, I, hv, fun s' I' => q s' ⟨j, pre, hr, hc, I'⟩⟩
theorem endVector_spec (I : BI C b S (r + 4) data σ) (hn : S.nested = true) {n : Nat} (he : S.ve = some (.int n)) (h2 : n ≤ 4294967295) :
    RF f_Builder_EndVector [.obj b] σ fun v s => v = .int (4 + data.length : Nat) ∧ BI C b { S with nested := false, ve := some .none } r (leBytes 4 n ++ data) s := by
  have I0 := I
  obtain ⟨j, pre, hr, hc, I⟩ := I
  refine RF.def rfl rfl ?_
  unfold x_Builder_EndVector
  walk_at "pure"
  refine RF.mono (assertNested_spec I hn) ?_
  rintro _ _ ⟨rfl, rfl⟩
  walk_at "pure"
  refine setNested_bi (f := eNo) I0 rfl fun s1 I1 => ?_
  obtain ⟨j1, pre1, hr1, hc1, J1⟩ := id I1
  walk_at "pure"
  refine RE.bslot J1 rfl (a := .int n) (by show S.ve = _; exact he) rfl ?_
  walk_at "pure"
  refine RF.mono (placeU_spec (room := r) I1 (by lia) (by lia)) ?_
  rintro _ s2 ⟨rfl, I2⟩
  walk_at "pure"
  refine setVe_bi (x := .none) I2 rfl (RE.const ⟨rfl, rfl⟩) fun s3 I3 => ?_
  obtain ⟨j3, pre3, hr3, hc3, J3⟩ := id I3
  walk_at "pure"
  refine RF.mono (offset_bi I3) ?_
  rintro _ _ ⟨rfl, rfl⟩
  walk_at "pure"
  refine ⟨?_, I3⟩
  rw [List.length_append, leBytes_length]
end
end Mine
set_option maxRecDepth 100000
namespace Mine
section
variable {C : Nat → Option AO} {b : Nat} {S : Bd} {σ : AH} {r room : Nat} {data : List UInt8} {vars : Vars}
theorem len_bytes {x : List UInt8} (h : x.length < 4611686018427387904) : fLen [.bytes x] σ = some (.int x.length, σ) := by
  unfold fLen lends
  exact if_pos h
/-- a row of octets ahead of the rest -/
theorem blob {x : List UInt8} {kx : Nat} {rest : Ex} {Q : Fl → Vars → AH → Prop} (I : BI C b S (x.length + r) data σ) (h3 : 3 < vars.length) (hv0 : (vars[0]?).join = some (.obj b)) (hv2 : (vars[2]?).join = some (.int x.length))
    (hv : ∀ w, ((vars.set 3 (some w))[0]?).join = some (.obj b) ∧ ((vars.set 3 (some w))[2]?).join = some (.int x.length) ∧ ((vars.set 3 (some w))[kx]?).join = some (.bytes x) ∧ ((vars.set 3 (some w))[3]?).join = some w)
    (q : ∀ w s, BI C b S r (x ++ data) s → RX rest (vars.set 3 (some w)) s Q) :
    RX (xSeq (xAsg 3 (eBin mSub (eAttr (eVar 0) (semSlot .builder 4)) (eVar 2))) (xSeq (xSet .builder 4 (eVar 0) (eVar 3)) (xSeq (xPutCut (eVar kx) (eAttr (eVar 0) (semSlot .builder 0)) (some (eVar 3)) (some (eBin mAdd (eVar 3) (eVar 2)))) rest))) vars σ Q := by
  obtain ⟨j, pre, hr, hc, I⟩ := I
  obtain ⟨p1, p2, rfl, hp2, hp1⟩ := split_pre (pre := pre) (r := r) (n := x.length) (by lia)
  have hh : ((p1 ++ p2).length : Int) - (x.length : Int) = (p1.length : Int) := by rw [List.length_append, hp2]; lia
  refine RX.seq (RX.asg (RE.bin (RE.bslot I hv0 rfl rfl (RE.var hv2 (RS.pure2 rfl ⟨h3, ?_⟩)))))
  obtain ⟨g0, g2, gx, g3⟩ := hv (.int (((p1 ++ p2).length : Int) - (x.length : Int)))
  refine SK.next (RX.seq (RX.sHead (RE.var g3 ⟨_, _, I, g0, rfl, fun s' I' => ?_⟩)))
  refine SK.next (RX.seq (RX.putCut (RE.var gx (RE.bslot I' g0 rfl rfl (RE.optSome (RE.var g3 (RE.optSome (RE.bin (RE.var g3 (RE.var g2 (RS.pure2 rfl ?_)))))))))))
  refine ⟨some p1.length, some (p1.length + x.length), s'.set j (.ba (p1 ++ (x ++ data))), ?_, ?_, ?_, ?_⟩
  · show (if (0 : Int) ≤ ((p1 ++ p2).length : Int) - (x.length : Int) then some (some (((p1 ++ p2).length : Int) - (x.length : Int)).toNat) else none) = _
    rw [hh, if_pos (by lia), Int.toNat_natCast]
  · show (if (0 : Int) ≤ ((p1 ++ p2).length : Int) - (x.length : Int) + (x.length : Int) then some (some (((p1 ++ p2).length : Int) - (x.length : Int) + (x.length : Int)).toNat) else none) = _
    rw [hh, if_pos (by lia)]
    congr 2
  · show putCut (.obj j) (some p1.length) (some (p1.length + x.length)) (.bytes x) s' = _
    unfold putCut
    dsimp only
    rw [show s'[j]? = some (.ba (p1 ++ p2 ++ data)) from I'.ba]
    dsimp only
    simp only [Option.getD_some]
    rw [if_pos (by simp at hc ⊢; lia), if_pos (by lia)]
    congr 3
    rw [← hp2]
    simp [List.append_assoc]
  have I1 := I'.bytes (p1 ++ (x ++ data))
  have I3 : Inv C b { (S.at j p1 (x ++ data)) with head := ((p1 ++ p2).length : Int) - (x.length : Int) } (s'.set j (.ba (p1 ++ (x ++ data)))) := I1
  rw [hh] at I3
  exact SK.next (q _ _ ⟨j, p1, hp1, by simp at hc ⊢; lia, I3⟩)
theorem createBytes_spec {x : List UInt8} (I : BI C b S r data σ) (hn : S.nested = false) (hx : x.length ≤ 100000) (hd : data.length ≤ 100000) :
    RF f_Builder_CreateByteVector [.obj b, .bytes x] σ fun v s => v = .int (4 + (x ++ al 4 x.length data).length : Nat) ∧ BI C b { S with ma := maxI S.ma 4, nested := false, ve := some .none } 0 (leBytes 4 x.length ++ (x ++ al 4 x.length data)) s := by
  have I0 := I
  obtain ⟨j, pre, hr, hc, I⟩ := I
  refine RF.def rfl rfl ?_
  unfold x_Builder_CreateByteVector
  walk_at "pure"
  refine RF.mono (assertNotNested_spec I hn) ?_
  rintro _ s ⟨rfl, rfl⟩
  walk_at "pure"
  refine setNested_bi (f := eNo) I0 rfl fun s1 I1 => ?_
  obtain ⟨j1, pre1, hr1, hc1, J1⟩ := id I1
  walk_at "pure"
  refine RF.some (a := .bool true) (s := s1) rfl ?_
  walk_at "pure"
  refine RF.some (len_bytes (by lia)) ?_
  walk_at "pure"
  refine RS.mulR (by decide) ?_
  rw [Int.mul_one]
  walk_at "pure"
  refine RF.mono (prep_bi (size := 4) (add := x.length) I1 (by lia) (by lia)) ?_
  rintro _ s2 ⟨rfl, I2⟩
  refine ⟨rfl, SK.next (blob (r := 4) (I2.le (by lia)) (of_decide_eq_true rfl) rfl rfl (fun w => ⟨rfl, rfl, rfl, rfl⟩) fun w s3 I3 => ?_)⟩
  refine RX.seq (setVe_bi (x := .int x.length) I3 rfl (RE.var rfl ⟨rfl, rfl⟩) fun s4 I4 => ?_)
  obtain ⟨j4, pre4, hr4, hc4, J4⟩ := id I4
  walk_at "pure"
  refine RF.mono (endVector_spec (r := 0) (n := x.length) I4 rfl rfl (by lia)) ?_
  rintro _ s5 ⟨rfl, I5⟩
  walk_at "pure"
  exact I5
theorem createString_spec {x : Str} (I : BI C b S r data σ) (hn : S.nested = false) (hs : (x.cps.toList.all fun c => !Str.isSurrogate c) = true) (hx : (encU x).length ≤ 100000) (hd : data.length ≤ 100000) :
    RF f_Builder_CreateString [.obj b, .str x] σ fun v s => v = .int (4 + (encU x ++ ([0] ++ al 4 ((encU x).length + 1) data)).length : Nat) ∧ BI C b { S with ma := maxI S.ma 4, nested := false, ve := some .none } 0 (leBytes 4 (encU x).length ++ (encU x ++ ([0] ++ al 4 ((encU x).length + 1) data))) s := by
  have I0 := I
  obtain ⟨j, pre, hr, hc, I⟩ := I
  refine RF.def rfl rfl ?_
  unfold x_Builder_CreateString
  walk_at "pure"
  refine RF.mono (assertNotNested_spec I hn) ?_
  rintro _ s ⟨rfl, rfl⟩
  walk_at "pure"
  refine setNested_bi (f := eNo) I0 rfl fun s1 I1 => ?_
  obtain ⟨j1, pre1, hr1, hc1, J1⟩ := id I1
  walk_at "pure"
  refine RF.some (a := .bool true) (s := s1) rfl ?_
  walk_at "pure"
  refine RF.some (a := .bytes (encU x)) (s := s1) ?_ ?_
  · show fEnc [.str x, .str "utf-8"] s1 = _
    unfold fEnc
    exact if_pos ⟨rfl, hs, by lia⟩
  walk_at "pure"
  refine RF.some (len_bytes (by lia)) ?_
  walk_at "pure"
  refine RS.mulR (by decide) ?_
  rw [Int.mul_one, show ((encU x).length : Int) + 1 = (((encU x).length + 1 : Nat) : Int) from rfl]
  walk_at "pure"
  refine RF.mono (prep_bi (size := 4) (add := (encU x).length + 1) I1 (by lia) (by lia)) ?_
  rintro _ s2 ⟨rfl, I2⟩
  obtain ⟨j2, pre2, hr2, hc2, J2⟩ := id I2
  walk_at "pure"
  refine RF.mono (place_spec (n := 1) (room := (encU x).length + 4) (lo := 0) (hi := 255) (v := 0) (I2.le (by lia)) ca_64_bw ca_64_lo ca_64_hi ca_64_pk rfl rfl rfl (by decide) (by decide)) ?_
  rintro _ s3 ⟨rfl, I3⟩
  have e0 : leBytes 1 0 = [0] := by decide
  rw [e0] at I3
  refine ⟨rfl, SK.next (blob (r := 4) I3 (of_decide_eq_true rfl) rfl rfl (fun w => ⟨rfl, rfl, rfl, rfl⟩) fun w s4 I4 => ?_)⟩
  refine RX.seq (setVe_bi (x := .int (encU x).length) I4 rfl (RE.var rfl ⟨rfl, rfl⟩) fun s5 I5 => ?_)
  obtain ⟨j5, pre5, hr5, hc5, J5⟩ := id I5
  walk_at "pure"
  refine RF.mono (endVector_spec (r := 0) (n := (encU x).length) I5 rfl rfl (by lia)) ?_
  rintro _ s6 ⟨rfl, I6⟩
  walk_at "pure"
  exact I6
theorem prepend_spec {n : Nat} (I : BI C b S r data σ) {x y : Addr} {c : Char} {u : UInt8} {v lo hi : Int} (hs : n = 1 ∨ n = 2 ∨ n = 4 ∨ n = 8) (hd : data.length ≤ 800000) (hbw : clsAttr x "bytewidth" = some (.int n)) (hlo : clsAttr x "min_val" = some (.int lo)) (hhi : clsAttr x "max_val" = some (.int hi))
    (hpk : clsAttr x "packer_type" = some (.st (.ref y))) (hx : stOf y = some (c, u, n)) (e1 : loC c n = lo) (e2 : hiC c n = hi) (h1 : lo ≤ v) (h2 : v ≤ hi) :
    RF f_Builder_Prepend [.obj b, .st (.ref x), .int v] σ fun v' s => v' = .none ∧ BI C b { S with ma := maxI S.ma n } 0 (leBytes n v ++ al n 0 data) s := by
  have I0 := I
  obtain ⟨j, pre, hr, hc, I⟩ := I
  refine RF.def rfl rfl ?_
  unfold x_Builder_Prepend
  walk_at "pure"
  refine ⟨_, _, rfl, hbw, ?_⟩
  walk_at "pure"
  refine RF.mono (prep_bi (size := n) (add := 0) I0 hs (by lia)) ?_
  rintro _ s1 ⟨rfl, I1⟩
  obtain ⟨j1, pre1, hr1, hc1, J1⟩ := id I1
  walk_at "pure"
  refine RF.mono (place_spec (n := n) (room := 0) (I1.le (by lia)) hbw hlo hhi hpk hx e1 e2 h1 h2) ?_
  rintro _ s2 ⟨rfl, I2⟩
  walk_at "pure"
  exact I2
theorem prependI32_spec (I : BI C b S r data σ) {v : Int} (hd : data.length ≤ 800000) (h1 : -2147483648 ≤ v) (h2 : v ≤ 2147483647) :
    RF f_Builder_PrependInt32 [.obj b, .int v] σ fun v' s => v' = .none ∧ BI C b { S with ma := maxI S.ma 4 } 0 (leBytes 4 v ++ al 4 0 data) s := by
  have I0 := I
  obtain ⟨j, pre, hr, hc, I⟩ := I
  refine RF.def rfl rfl ?_
  unfold x_Builder_PrependInt32
  walk_at "pure"
  refine RF.mono (prepend_spec (n := 4) I0 (by lia) hd ca_120_bw ca_120_lo ca_120_hi ca_120_pk rfl rfl rfl h1 h2) ?_
  rintro _ s1 ⟨rfl, I1⟩
  walk_at "pure"
  exact I1
theorem prependV_spec (I : BI C b S r data σ) {v : Int} (hd : data.length ≤ 800000) (h1 : 0 ≤ v) (h2 : v ≤ 65535) :
    RF f_Builder_PrependVOffsetT [.obj b, .int v] σ fun v' s => v' = .none ∧ BI C b { S with ma := maxI S.ma 2 } 0 (leBytes 2 v ++ al 2 0 data) s := by
  have I0 := I
  obtain ⟨j, pre, hr, hc, I⟩ := I
  refine RF.def rfl rfl ?_
  unfold x_Builder_PrependVOffsetT
  walk_at "pure"
  refine RF.mono (prepend_spec (n := 2) I0 (by lia) hd ca_158_bw ca_158_lo ca_158_hi ca_158_pk rfl rfl rfl h1 h2) ?_
  rintro _ s1 ⟨rfl, I1⟩
  walk_at "pure"
  exact I1
theorem prependSlot_spec {n : Nat} (I : BI C b S r data σ) {x y : Addr} {c : Char} {u : UInt8} {v dd lo hi : Int} (hs : n = 1 ∨ n = 2 ∨ n = 4 ∨ n = 8) (hd : data.length ≤ 700000) (hbw : clsAttr x "bytewidth" = some (.int n)) (hlo : clsAttr x "min_val" = some (.int lo)) (hhi : clsAttr x "max_val" = some (.int hi))
    (hpk : clsAttr x "packer_type" = some (.st (.ref y))) (hx : stOf y = some (c, u, n)) (e1 : loC c n = lo) (e2 : hiC c n = hi) (h1 : lo ≤ v) (h2 : v ≤ hi) (h3 : lo ≤ dd) (h4 : dd ≤ hi) (hn : S.nested = true) {l k : Nat} {xs : List AV} (hl : S.vl = some (l, xs)) (hk : k < xs.length) (hxs : xs.length < 100) :
    RF f_Builder_PrependSlot [.obj b, .st (.ref x), .int k, .int v, .int dd] σ fun v' s => v' = .none ∧
      (v ≠ dd → BI C b { S with ma := maxI S.ma n, vl := some (l, xs.set k (.int (leBytes n v ++ al n 0 data).length)) } 0 (leBytes n v ++ al n 0 data) s) ∧ (v = dd → BI C b S r data s) := by
  have I0 := I
  obtain ⟨j, pre, hr, hc, I⟩ := I
  refine RF.def rfl rfl ?_
  unfold x_Builder_PrependSlot
  walk_at "pure"
  refine RF.mono (enforce_spec hlo hhi h1 h2) ?_
  rintro _ s ⟨rfl, rfl⟩
  walk_at "pure"
  refine RF.mono (enforce_spec hlo hhi h3 h4) ?_
  rintro _ s ⟨rfl, rfl⟩
  walk_at "pure"
  by_cases hv : v = dd
  · refine IK.nbf hv ?_
    walk_at "pure"
    exact ⟨fun q => absurd hv q, fun _ => I0⟩
  · refine IK.nbt hv ?_
    walk_at "pure"
    refine RF.mono (prepend_spec (n := n) I0 hs (by lia) hbw hlo hhi hpk hx e1 e2 h1 h2) ?_
    rintro _ s1 ⟨rfl, I1⟩
    obtain ⟨j1, pre1, hr1, hc1, J1⟩ := id I1
    walk_at "pure"
    refine RF.mono (slot_spec I1 hn hl hk hxs) ?_
    rintro _ s2 ⟨rfl, I2⟩
    walk_at "pure"
    exact ⟨fun _ => I2.le (by lia), fun q => absurd q hv⟩
theorem prependUSlot_spec (I : BI C b S r data σ) {v : Nat} (hd : data.length ≤ 700000) (hv : v ≤ data.length) (hn : S.nested = true) {l k : Nat} {xs : List AV} (hl : S.vl = some (l, xs)) (hk : k < xs.length) (hxs : xs.length < 100) :
    RF f_Builder_PrependUOffsetTRelativeSlot [.obj b, .int k, .int v, .int 0] σ fun v' s => v' = .none ∧
      (v ≠ 0 → BI C b { S with ma := maxI S.ma 4, vl := some (l, xs.set k (.int (leBytes 4 (((al 4 0 data).length : Int) - v + 4) ++ al 4 0 data).length)) } 0 (leBytes 4 (((al 4 0 data).length : Int) - v + 4) ++ al 4 0 data) s) ∧ (v = 0 → BI C b S r data s) := by
  have I0 := I
  obtain ⟨j, pre, hr, hc, I⟩ := I
  refine RF.def rfl rfl ?_
  unfold x_Builder_PrependUOffsetTRelativeSlot
  walk_at "pure"
  by_cases hz : v = 0
  · refine IK.nbf (by lia) ?_
    walk_at "pure"
    exact ⟨fun q => absurd hz q, fun _ => I0⟩
  · refine IK.nbt (by lia) ?_
    walk_at "pure"
    refine RF.mono (prependU_spec I0 (by lia) hv) ?_
    rintro _ s1 ⟨rfl, I1⟩
    obtain ⟨j1, pre1, hr1, hc1, J1⟩ := id I1
    walk_at "pure"
    refine RF.mono (slot_spec I1 hn hl hk hxs) ?_
    rintro _ s2 ⟨rfl, I2⟩
    walk_at "pure"
    exact ⟨fun _ => I2.le (by lia), fun q => absurd q hz⟩
end
end Mine
set_option maxRecDepth 100000
namespace Mine
section
variable {C : Nat → Option AO} {b : Nat} {S : Bd} {σ : AH} {r room : Nat} {data : List UInt8} {vars : Vars}
theorem RF.star {fi : FI} {x : Ex} {s a1 a2 a3 : AV} {Q : AV → AH → Prop} (h : RX x [Option.some s, Option.some (.obj σ.length)] (σ ++ [.tup [a1, a2, a3]]) (FK Q)) : RF (fStar fi x) [s, a1, a2, a3] σ Q := by
  obtain ⟨fl, v, s', e, q⟩ := h
  unfold RF fStar
  dsimp only
  rw [e]
  cases fl with
  | next => exact ⟨_, _, rfl, q⟩
  | ret a => exact ⟨_, _, rfl, q⟩
  | cont => exact q.elim
  | brk => exact q.elim
theorem RE.star {s flags o x dd : AV} {j : Nat} {F : Fn} {b : Bool} {Q : AV → AH → Prop} (h0 : (vars[0]?).join = some s) (h1 : (vars[1]?).join = some (.obj j)) (hj : σ[j]? = some (.tup [o, x, dd])) (hs : selI .builder s σ = some b) (h : RF F [s, flags, o, x, dd] σ Q) : RE (eStar flags F) vars σ Q := by
  unfold RE eStar
  rw [h0, h1]
  dsimp only
  rw [hj]
  dsimp only
  rw [hs]
  exact h
theorem u64_spec (I : BI C b S r data σ) {v : Int} (hd : data.length ≤ 700000) (h1 : 0 ≤ v) (h2 : v ≤ 18446744073709551615) (hn : S.nested = true) {l k : Nat} {xs : List AV} (hl : S.vl = some (l, xs)) (hk : k < xs.length) (hxs : xs.length < 100) :
    RF f_U64 [.obj b, .int k, .int v, .int 0] σ fun v' s => v' = .none ∧
      (v ≠ 0 → BI C b { S with ma := maxI S.ma 8, vl := some (l, xs.set k (.int (leBytes 8 v ++ al 8 0 data).length)) } 0 (leBytes 8 v ++ al 8 0 data) s) ∧ (v = 0 → BI C b S r data s) := by
  have I1 := I.app [.tup [.int k, .int v, .int 0]]
  obtain ⟨j, pre, hr, hc, J⟩ := id I1
  refine RF.star ?_
  unfold x_U64
  refine RX.seq (RX.expr (RE.star rfl rfl get_end J.sel (RF.mono (prependSlot_spec (n := 8) I1 (by lia) hd ca_106_bw ca_106_lo ca_106_hi ca_106_pk rfl rfl rfl h1 h2 (by decide) (by decide) hn hl hk hxs) ?_)))
  rintro _ s ⟨rfl, q⟩
  walk_at "pure"
  exact q
theorem i32_spec (I : BI C b S r data σ) {v dd : Int} (hd : data.length ≤ 700000) (h1 : -2147483648 ≤ v) (h2 : v ≤ 2147483647) (h3 : -2147483648 ≤ dd) (h4 : dd ≤ 2147483647) (hn : S.nested = true) {l k : Nat} {xs : List AV} (hl : S.vl = some (l, xs)) (hk : k < xs.length) (hxs : xs.length < 100) :
    RF f_I32 [.obj b, .int k, .int v, .int dd] σ fun v' s => v' = .none ∧
      (v ≠ dd → BI C b { S with ma := maxI S.ma 4, vl := some (l, xs.set k (.int (leBytes 4 v ++ al 4 0 data).length)) } 0 (leBytes 4 v ++ al 4 0 data) s) ∧ (v = dd → BI C b S r data s) := by
  have I1 := I.app [.tup [.int k, .int v, .int dd]]
  obtain ⟨j, pre, hr, hc, J⟩ := id I1
  refine RF.star ?_
  unfold x_I32
  refine RX.seq (RX.expr (RE.star rfl rfl get_end J.sel (RF.mono (prependSlot_spec (n := 4) I1 (by lia) hd ca_120_bw ca_120_lo ca_120_hi ca_120_pk rfl rfl rfl h1 h2 h3 h4 hn hl hk hxs) ?_)))
  rintro _ s ⟨rfl, q⟩
  walk_at "pure"
  exact q
/-- a new row of slots -/
theorem Inv.newVl (I : Inv C b S σ) {l : Nat} {xs : List AV} (hx : σ[l]? = some (.list true xs)) (hl : C l = none) : ∃ s, Mine.setSlot .builder 1 (.obj b) (.obj l) σ = some s ∧ Inv C b { S with vl := some (l, xs) } s := by
  have I2 : Inv C b { S with vl := some (l, xs) } (σ.set b (.inst .builder S.d ({ S with vl := some (l, xs) } : Bd).sl)) := by
    have nd : b ≠ S.d := ne_of_get I.inst I.dict (by intro e; cases e)
    have nj : b ≠ S.j := ne_of_get I.inst I.ba (by intro e; cases e)
    have nt : b ≠ S.t := ne_of_get I.inst I.tab (by rcases I.vtd with e | e <;> rw [e] <;> intro e <;> cases e)
    refine ⟨get_self I.inst, get_set I.dict nd, get_set I.ba nj, get_set I.tab nt, I.vtd, I.ntd, fun l' xs' e => ?_, I.cb, I.cj, I.ct, fun i ao e => ?_⟩
    · cases e
      exact ⟨get_set hx (ne_of_get I.inst hx (by intro e; cases e)), hl⟩
    · refine get_set (I.keep i ao e) fun q => ?_
      rw [← q, I.cb] at e; cases e
  refine ⟨_, ?_, I2⟩
  unfold Mine.setSlot
  rw [I.of]
  show (if 1 < S.sl.length then some (σ.set b (.inst .builder S.d (S.sl.set 1 (some (.obj l))))) else none) = _
  rw [if_pos (of_decide_eq_true rfl)]
  rfl
theorem Inv.noVl (I : Inv C b S σ) : ∃ s, Mine.setSlot .builder 1 (.obj b) .none σ = some s ∧ Inv C b { S with vl := none } s := by
  have I2 : Inv C b { S with vl := none } (σ.set b (.inst .builder S.d ({ S with vl := none } : Bd).sl)) := by
    have nd : b ≠ S.d := ne_of_get I.inst I.dict (by intro e; cases e)
    have nj : b ≠ S.j := ne_of_get I.inst I.ba (by intro e; cases e)
    have nt : b ≠ S.t := ne_of_get I.inst I.tab (by rcases I.vtd with e | e <;> rw [e] <;> intro e <;> cases e)
    refine ⟨get_self I.inst, get_set I.dict nd, get_set I.ba nj, get_set I.tab nt, I.vtd, I.ntd, fun l' xs' e => (nomatch e), I.cb, I.cj, I.ct, fun i ao e => ?_⟩
    refine get_set (I.keep i ao e) fun q => ?_
    rw [← q, I.cb] at e; cases e
  refine ⟨_, ?_, I2⟩
  unfold Mine.setSlot
  rw [I.of]
  show (if 1 < S.sl.length then some (σ.set b (.inst .builder S.d (S.sl.set 1 (some .none)))) else none) = _
  rw [if_pos (of_decide_eq_true rfl)]
  rfl
theorem startObject_spec (I : BI C b S r data σ) (hn : S.nested = false) : RF f_Builder_StartObject [.obj b, .int 4] σ fun v s => v = .none ∧ ∃ l, BI C b { S with vl := some (l, [.int 0, .int 0, .int 0, .int 0]), oe := .int data.length, nested := true } r data s := by
  have I0 := I
  obtain ⟨j, pre, hr, hc, I⟩ := I
  refine RF.def rfl rfl ?_
  unfold x_Builder_StartObject
  walk_at "pure"
  refine RF.mono (assertNotNested_spec I hn) ?_
  rintro _ s ⟨rfl, rfl⟩
  walk_at "pure"
  refine RX.set ?_
  walk_at "pure"
  refine RS.some (a := .obj (s ++ [AO.list true [.int 0]]).length) (s := s ++ [AO.list true [.int 0]] ++ [AO.list true [.int 0, .int 0, .int 0, .int 0]]) ?_ ?_
  · show fRep (.obj s.length) (.int 4) (s ++ [.list true [.int 0]]) = _
    unfold fRep
    dsimp only
    rw [get_end]
    rfl
  have I1 := (I.app [.list true [.int 0]]).app [.list true [.int 0, .int 0, .int 0, .int 0]]
  obtain ⟨s1, e1, J1⟩ := I1.newVl get_end (I.app [.list true [.int 0]]).fresh
  refine RE.var rfl ⟨s1, e1, ?_⟩
  have K1 : BI C b { S with vl := some (_, [.int 0, .int 0, .int 0, .int 0]) } r data s1 := ⟨j, pre, hr, hc, J1⟩
  walk_at "pure"
  refine RX.sOe (C := C) (b := b) ?_
  walk_at "pure"
  refine RF.mono (offset_bi K1) ?_
  rintro _ s ⟨rfl, rfl⟩
  refine ⟨_, J1, rfl, fun s2 J2 => ?_⟩
  walk_at "pure"
  refine RX.sNested (RE.const ⟨_, _, J2, rfl, rfl, fun s3 J3 => ?_⟩)
  walk_at "pure"
  exact ⟨_, j, pre, hr, hc, J3⟩
/-- an object on its way -/
structure Raw (σ : AH) (b dd : Nat) (sl : List (Option AV)) (ex : List (Nat × AO)) (s : AH) : Prop where
  inst : s[b]? = some (.inst .builder dd sl)
  dict : s[dd]? = some .edict
  keep : ∀ (i : Nat) (ao : AO), σ[i]? = some ao → s[i]? = some ao
  exs : ∀ p ∈ ex, s[p.1]? = some p.2 ∧ p.1 ≠ b ∧ σ.length ≤ p.1
  low : σ.length ≤ b
theorem Raw.of {dd : Nat} {sl : List (Option AV)} {ex : List (Nat × AO)} {s : AH} (I : Raw σ b dd sl ex s) : instOf .builder (.obj b) s = some (b, dd, sl) := by
  unfold instOf
  dsimp only
  rw [I.inst]
  exact if_pos ⟨rfl, I.dict⟩
theorem Raw.app {dd : Nat} {sl : List (Option AV)} {ex : List (Nat × AO)} {s : AH} (I : Raw σ b dd sl ex s) (x : AO) : Raw σ b dd sl ((s.length, x) :: ex) (s ++ [x]) := by
  have hb := (List.getElem?_eq_some_iff.mp I.inst).1
  refine ⟨get_app I.inst, get_app I.dict, fun i ao e => get_app (I.keep i ao e), fun p hp => ?_, I.low⟩
  rcases List.mem_cons.mp hp with rfl | hp
  · refine ⟨get_end, ?_, ?_⟩
    · show s.length ≠ b
      lia
    · show σ.length ≤ s.length
      have := I.low
      lia
  · exact ⟨get_app (I.exs p hp).1, (I.exs p hp).2⟩
theorem RX.rset {k i : Nat} {f : Ev} {Q : Fl → Vars → AH → Prop} {τ : AH} (h : RE f vars σ fun v s => ∃ dd sl ex, Raw τ b dd sl ex s ∧ (vars[k]?).join = some (.obj b) ∧ i < sl.length ∧ ∀ s', Raw τ b dd (sl.set i (some v)) ex s' → Q .next vars s') : RX (xSet .builder i (eVar k) f) vars σ Q := by
  refine RX.set (h.mono fun v s q => ?_)
  obtain ⟨dd, sl, ex, I, hv, hi, q⟩ := q
  have nd : b ≠ dd := ne_of_get I.inst I.dict (by intro e; cases e)
  refine RE.var hv ⟨s.set b (.inst .builder dd (sl.set i (some v))), ?_, q _ ⟨get_self I.inst, get_set I.dict nd, fun i ao e => get_set (I.keep i ao e) fun q => ?_, fun p hp => ⟨get_set (I.exs p hp).1 (Ne.symm (I.exs p hp).2.1), (I.exs p hp).2⟩, I.low⟩⟩
  · unfold Mine.setSlot
    rw [I.of]
    exact if_pos hi
  · have := (List.getElem?_eq_some_iff.mp e).1
    have := I.low
    lia
end
end Mine
set_option maxRecDepth 100000
namespace Mine
section
variable {C : Nat → Option AO} {b : Nat} {S : Bd} {σ : AH} {r room : Nat} {data : List UInt8} {vars : Vars}
theorem RF.new {c : Cl} {F : Fn} {args : List AV} {Q : AV → AH → Prop} (h : RF F (.obj (σ.length + 1) :: args) ((σ ++ [.edict]) ++ [.inst c σ.length (List.replicate (clsNew c) none)]) fun v s => v = .none ∧ Q (.obj (σ.length + 1)) s) : RF (fNew c F) args σ Q := by
  obtain ⟨v, s, e, rfl, q⟩ := h
  refine ⟨_, s, ?_, q⟩
  unfold fNew
  rw [e]
  show (if AV.none = AV.none then Option.some (AV.obj (σ.length + 1), s) else none) = _
  exact if_pos rfl
theorem RE.dict {Q : AV → AH → Prop} (h : Q (.obj σ.length) (σ ++ [.edict])) : RE eDict vars σ Q := ⟨_, _, rfl, h⟩
theorem get_mid {σ : AH} {x y : AO} : (σ ++ [x] ++ [y])[σ.length]? = some x := get_app get_end
theorem new_spec {size : Nat} (hs : size ≤ 1000) : RF f_newBuilder [.int size] σ fun v s => ∃ b d t, v = .obj b ∧ σ.length ≤ b ∧ BI (fun i => σ[i]?) b ⟨d, 0, t, .edict, [], 0, 1, false, false, none, .none, none⟩ size [] s := by
  refine RF.new ?_
  have R0 : Raw σ (σ.length + 1) σ.length [none, none, none, none, none, none, none, none, none, none, none] [] (σ ++ [.edict] ++ [.inst .builder σ.length (List.replicate (clsNew .builder) none)]) := by
    refine ⟨?_, get_mid, fun i ao e => get_app (get_app e), fun p hp => (nomatch hp), by lia⟩
    have := get_end (σ := σ ++ [AO.edict]) (x := .inst .builder σ.length (List.replicate (clsNew .builder) none))
    rw [List.length_append] at this
    exact this
  generalize σ ++ [.edict] ++ [.inst .builder σ.length (List.replicate (clsNew .builder) none)] = s0 at R0
  refine RF.def rfl rfl ?_
  unfold x_Builder__init
  walk_at "pure"
  refine IK.nt (by lia) ?_
  walk_at "pure"
  refine RX.rset (τ := σ) (b := σ.length + 1) ?_
  walk_at "pure"
  refine RF.some (a := .obj s0.length) (s := s0 ++ [.ba (List.replicate size 0)]) ?_ ?_
  · show fBa [.int size] s0 = _
    unfold fBa
    dsimp only
    rw [if_pos (by lia), Int.toNat_natCast]
  refine ⟨_, _, _, R0.app _, rfl, of_decide_eq_true rfl, fun s1 R1 => ?_⟩
  walk_at "pure"
  refine RX.rset (τ := σ) (b := σ.length + 1) (RE.const ⟨_, _, _, R1, rfl, of_decide_eq_true rfl, fun s2 R2 => ?_⟩)
  walk_at "pure"
  refine RX.rset (τ := σ) (b := σ.length + 1) ?_
  walk_at "pure"
  refine RF.some (a := .int size) (s := s2) rfl ?_
  refine ⟨_, _, _, R2, rfl, of_decide_eq_true rfl, fun s3 R3 => ?_⟩
  walk_at "pure"
  refine RX.rset (τ := σ) (b := σ.length + 1) (RE.const ⟨_, _, _, R3, rfl, of_decide_eq_true rfl, fun s4 R4 => ?_⟩)
  walk_at "pure"
  refine RX.rset (τ := σ) (b := σ.length + 1) (RE.const ⟨_, _, _, R4, rfl, of_decide_eq_true rfl, fun s5 R5 => ?_⟩)
  walk_at "pure"
  refine RX.rset (τ := σ) (b := σ.length + 1) (RE.dict ⟨_, _, _, R5.app .edict, rfl, of_decide_eq_true rfl, fun s6 R6 => ?_⟩)
  walk_at "pure"
  refine RX.rset (τ := σ) (b := σ.length + 1) (RE.const ⟨_, _, _, R6, rfl, of_decide_eq_true rfl, fun s7 R7 => ?_⟩)
  walk_at "pure"
  refine RX.rset (τ := σ) (b := σ.length + 1) (RE.const ⟨_, _, _, R7, rfl, of_decide_eq_true rfl, fun s8 R8 => ?_⟩)
  walk_at "pure"
  refine RX.rset (τ := σ) (b := σ.length + 1) (RE.const ⟨_, _, _, R8, rfl, of_decide_eq_true rfl, fun s9 R9 => ?_⟩)
  walk_at "pure"
  refine RX.rset (τ := σ) (b := σ.length + 1) (RE.const ⟨_, _, _, R9, rfl, of_decide_eq_true rfl, fun s10 R10 => ?_⟩)
  walk_at "pure"
  have hd5 := (List.getElem?_eq_some_iff.mp R5.dict).1
  obtain ⟨t1, t2, t3⟩ := R10.exs (s5.length, .edict) (.head _)
  obtain ⟨u1, u2, u3⟩ := R10.exs (s0.length, .ba (List.replicate size 0)) (.tail _ (.head _))
  have cn : ∀ {i : Nat}, σ.length ≤ i → σ[i]? = none := fun h => List.getElem?_eq_none h
  refine ⟨σ.length + 1, σ.length, s5.length, rfl, by lia, s0.length, List.replicate size 0, by simp, by simp; lia, ?_⟩
  refine ⟨?_, R10.dict, ?_, t1, .inl rfl, ?_, fun l xs e => (nomatch e), cn (by lia), cn u3, cn t3, R10.keep⟩
  · show s10[σ.length + 1]? = some (AO.inst .builder σ.length [some (.obj s0.length), some .none, some (.bool false), some (.bool false), some (.int ((List.replicate size (0 : UInt8)).length : Nat)), some (.int 1), some (.bool false), some .none, some .none, none, some (.obj s5.length)])
    rw [List.length_replicate]
    exact R10.inst
  · show s10[s0.length]? = some (.ba (List.replicate size 0 ++ []))
    rw [List.append_nil]
    exact u1
  · show s5.length ≠ σ.length
    lia
/-- the slots without the noughts at their end -/
noncomputable def trimZ : List Nat → List Nat
  | [] => []
  | s :: r => match trimZ r with
    | [] => if s = 0 then [] else [s]
    | t :: ts => s :: t :: ts
noncomputable def encV (R : Nat) (xs : List Nat) : List UInt8 := xs.flatMap fun s : Nat => leBytes 2 (if s = 0 then 0 else (R : Int) - s)
theorem trimZ_cons_zero {r : List Nat} (h : trimZ r = []) : trimZ (0 :: r) = [] := by rw [trimZ, h]; rfl
theorem trimZ_cons_ne {s : Nat} {r : List Nat} (h : s ≠ 0) : trimZ (s :: r) = s :: trimZ r := by
  rw [trimZ]
  cases trimZ r with
  | nil => exact if_neg h
  | cons t ts => rfl
theorem trimZ_cons_more {s : Nat} {r : List Nat} (h : trimZ r ≠ []) : trimZ (s :: r) = s :: trimZ r := by
  rw [trimZ]
  cases e : trimZ r with
  | nil => exact absurd e h
  | cons t ts => rfl
theorem trimZ_length (r : List Nat) : (trimZ r).length ≤ r.length := by
  induction r with
  | nil => exact Nat.le_refl _
  | cons s r ih =>
    rw [trimZ]
    cases e : trimZ r with
    | nil => dsimp only; split <;> simp
    | cons t ts => rw [e] at ih; simpa using ih
theorem encV_cons (R s : Nat) (r : List Nat) : encV R (s :: r) = leBytes 2 (if s = 0 then 0 else (R : Int) - s) ++ encV R r := by unfold encV; rw [List.flatMap_cons]
theorem encV_length (R : Nat) (xs : List Nat) : (encV R xs).length = 2 * xs.length := by
  unfold encV
  induction xs with
  | nil => rfl
  | cons s r ih => rw [List.flatMap_cons, List.length_append, leBytes_length, ih, List.length_cons]; lia
theorem al_id {size add : Nat} {data : List UInt8} (hs : 0 < size) (h : (data.length + add) % size = 0) : al size add data = data := by
  unfold al padN
  rw [h, Nat.sub_zero, Nat.mod_self]
  rfl
theorem maxI_low {S : Bd} {n : Int} (h : n ≤ S.ma) : ({ S with ma := maxI S.ma n } : Bd) = S := by
  have : maxI S.ma n = S.ma := by unfold maxI; rw [if_neg (by lia)]
  rw [this]
theorem ints_app {ys : List AV} {v : Int} (h : ∃ is, intsOf ys = some is) : ∃ is, intsOf (ys ++ [.int v]) = some is := by
  obtain ⟨is, h⟩ := h
  refine ⟨is ++ [v], ?_⟩
  induction ys generalizing is with
  | nil => cases h; rfl
  | cons y ys ih =>
    cases y <;> first | cases h | skip
    rename_i x
    unfold intsOf at h
    obtain ⟨is', e, rfl⟩ := Option.map_eq_some_iff.mp h
    show intsOf (AV.int x :: (ys ++ [.int v])) = _
    rw [intsOf, ih is' e]; rfl
theorem BI.list (I : BI C b S r data σ) {l kk : Nat} {xs ys : List AV} {x : AO} (hl : S.vl = some (l, xs)) (hk : σ[kk]? = some (.list true ys)) (hkl : kk ≠ l) (hc : C kk = none) : BI C b S r data (σ.set kk x) := by
  obtain ⟨j, pre, a, c, I⟩ := I
  refine ⟨j, pre, a, c, I.other hk hc (ne_of_get hk I.inst (by intro e; cases e)) (ne_of_get hk I.dict (by intro e; cases e)) (ne_of_get hk I.ba (by intro e; cases e)) (ne_of_get hk I.tab (by rcases I.vtd with e | e <;> rw [e] <;> intro e <;> cases e)) fun l' xs' e => ?_⟩
  have e : S.vl = some (l', xs') := e
  rw [hl] at e
  cases e
  exact hkl
theorem sel_list {kk : Nat} {ys : List AV} (h : σ[kk]? = some (.list true ys)) : selList (.obj kk) σ = some true := by
  unfold selList
  dsimp only
  rw [h]
theorem append_list {kk : Nat} {ys : List AV} {a : AV} (h : σ[kk]? = some (.list true ys)) (hy : ys.length < 16777216) : fAppend [.obj kk, a] σ = some (.none, σ.set kk (.list true (ys ++ [a]))) := by
  unfold fAppend
  dsimp only
  rw [h]
  exact if_pos hy
theorem key_loop {R : Int} {l kk : Nat} {xs : List Nat} {Q : Fl → Vars → AH → Prop} (hl : S.vl = some (l, xs.map fun s : Nat => AV.int s)) (hkl : kk ≠ l) (hck : C kk = none)
    (q : ∀ (t : Bool) (e : Option AV) (ys : List AV) (σ : AH), BI C b S r data σ → σ[kk]? = some (.list true ys) → (∃ is, intsOf ys = some is) → ys.length ≤ 100 → Q .next [some (.obj b), some (.int R), some (.obj kk), some (.bool t), e, none, none, none, none, none, none, none] σ) (f : Nat) :
    ∀ (m : Nat) (t : Bool) (e : Option AV) (ys : List AV) (σ : AH), m ≤ xs.length → BI C b S r data σ → σ[kk]? = some (.list true ys) → (∃ is, intsOf ys = some is) → ys.length + m ≤ 100 →
      RX (forF 4 (xSeq (xIf (bCmp mEq (eVar 4) (eConst (.int 0))) (xSeq (xIf (bVal (eVar 3)) (xSeq xCont xNil) xNil) xNil) (xSeq (xAsg 4 (eBin mSub (eVar 1) (eVar 4))) (xSeq (xAsg 3 (eConst (.bool false))) xNil))) (xSeq (xExpr (eMeth (eVar 2) selList ([(eVar 4)] ++ []) fAppend)) xNil)) (m + (f + 1)) (.rev l ((m : Int) - 1)))
        [some (.obj b), some (.int R), some (.obj kk), some (.bool t), e, none, none, none, none, none, none, none] σ Q := by
  intro m
  induction m with
  | zero =>
    intro t e ys σ hm I hk hi hy
    obtain ⟨j, pre, hr, hc, J⟩ := id I
    refine RX.forE ?_ (q t e ys σ I hk hi (by lia))
    unfold nextIt nextRev
    dsimp only
    rw [(J.lst l _ hl).1]
    rfl
  | succ m ih =>
    intro t e ys σ hm I hk hi hy
    obtain ⟨j, pre, hr, hc, J⟩ := id I
    have hget : xs[m]? = some (xs[m]'(by lia)) := List.getElem?_eq_getElem (by lia)
    generalize xs[m]'(by lia) = sm at hget
    rw [show m + 1 + (f + 1) = (m + (f + 1)) + 1 from by lia]
    refine RX.forS (a := .int sm) (J := .rev l ((m : Int) - 1)) ?_ (of_decide_eq_true rfl) ?_
    · unfold nextIt nextRev
      dsimp only
      rw [(J.lst l _ hl).1]
      dsimp only
      rw [if_neg (by lia), if_pos (by lia), show (((m + 1 : Nat) : Int) - 1) = (m : Int) from by lia, Int.toNat_natCast, List.getElem?_map, hget]
      rfl
    walk_at "pure"
    by_cases h0 : sm = 0
    · refine IK.bt (by lia) ?_
      walk_at "pure"
      cases t with
      | true =>
        walk_at "pure"
        exact ih true _ ys σ (by lia) I hk hi (by lia)
      | false =>
        walk_at "pure"
        refine ⟨true, sel_list hk, ?_⟩
        walk_at "pure"
        refine RF.some (append_list hk (by lia)) ?_
        walk_at "pure"
        exact ih false _ _ _ (by lia) (I.list hl hk hkl hck) (get_self hk) (ints_app hi) (by simp; lia)
    · refine IK.bf (by lia) ?_
      walk_at "pure"
      refine ⟨true, sel_list hk, ?_⟩
      walk_at "pure"
      refine RF.some (append_list hk (by lia)) ?_
      walk_at "pure"
      exact ih false _ _ _ (by lia) (I.list hl hk hkl hck) (get_self hk) (ints_app hi) (by simp; lia)
theorem item_list {l k : Nat} {w : Bool} {xs : List AV} {x : AV} (h : σ[l]? = some (.list w xs)) (hx : xs[k]? = some x) (hk : k < 1000000) : gItem (.obj l) (.int k) σ = some (x, σ) := by
  unfold gItem lends
  dsimp only
  rw [h]
  dsimp only
  rw [if_pos (by lia), Int.toNat_natCast, hx]
  rfl
theorem item_tup {l k : Nat} {xs : List AV} {x : AV} (h : σ[l]? = some (.tup xs)) (hx : xs[k]? = some x) (hk : k < 1000000) : gItem (.obj l) (.int k) σ = some (x, σ) := by
  unfold gItem lends
  dsimp only
  rw [h]
  dsimp only
  rw [if_pos (by lia), Int.toNat_natCast, hx]
  rfl
theorem vt_loop {R : Nat} {l : Nat} {tt osz vo : Option AV} {xs : List Nat} {base : List UInt8} {Q : Fl → Vars → AH → Prop} (hl : S.vl = some (l, xs.map fun s : Nat => AV.int s)) (hxs : xs.length ≤ 100) (hR : R ≤ 60000) (hsx : ∀ s ∈ xs, s ≤ R) (hma : 2 ≤ S.ma) (hb2 : base.length % 2 = 0) (hbl : base.length ≤ 500000)
    (q : ∀ (t : Bool) (e o : Option AV) (σ : AH), BI C b S 0 (encV R (trimZ xs) ++ base) σ →
      Q .next [some (.obj b), some (.int R), tt, some (.bool t), e, osz, vo, some (.int (-1)), some (.int (xs.length - (trimZ xs).length : Nat)), none, none, o] σ) (f : Nat) :
    ∀ (m : Nat) (suf : List Nat) (e o : Option AV) (σ : AH), m + suf.length = xs.length → xs.drop m = suf → BI C b S 0 (encV R (trimZ suf) ++ base) σ →
      RX (whileF (bCmp mGe (eVar 7) (eConst (.int 0))) (xSeq (xAsg 11 (eConst (.int 0))) (xSeq (xAsg 4 (eBin gItem (eAttr (eVar 0) (semSlot .builder 1)) (eVar 7))) (xSeq (xAug 7 mSub (eConst (.int 1))) (xSeq (xIf (bCmp mEq (eVar 4) (eConst (.int 0))) (xSeq (xIf (bVal (eVar 3)) (xSeq (xAug 8 mIAdd (eConst (.int 1))) (xSeq xCont xNil)) xNil) xNil) (xSeq (xAsg 11 (eBin mSub (eVar 1) (eVar 4))) (xSeq (xAsg 3 (eConst (.bool false))) xNil))) (xSeq (xExpr (eMeth (eVar 0) (selI .builder) ([(eVar 11)] ++ []) f_Builder_PrependVOffsetT)) xNil))))) (m + (f + 1)))
        [some (.obj b), some (.int R), tt, some (.bool (trimZ suf).isEmpty), e, osz, vo, some (.int ((m : Int) - 1)), some (.int (suf.length - (trimZ suf).length : Nat)), none, none, o] σ Q := by
  intro m
  induction m with
  | zero =>
    intro suf e o σ hm hd I
    refine RX.while ?_
    walk_at "pure"
    have hs : xs = suf := by simpa using hd
    subst hs
    exact q _ e o σ I
  | succ m ih =>
    intro suf e o σ hm hd I
    obtain ⟨j, pre, hr, hc, J⟩ := id I
    have hget : xs[m]? = some (xs[m]'(by lia)) := List.getElem?_eq_getElem (by lia)
    have hmem : xs[m]'(by lia) ∈ xs := List.getElem_mem _
    have hdrop : xs.drop m = xs[m]'(by lia) :: suf := (List.drop_eq_getElem_cons (by lia)).trans (congrArg _ hd)
    generalize xs[m]'(by lia) = sm at hget hmem hdrop
    have hsm := hsx sm hmem
    have htl := trimZ_length suf
    have hel := encV_length R (trimZ suf)
    have hdl : (encV R (trimZ suf) ++ base).length = 2 * (trimZ suf).length + base.length := by rw [List.length_append, hel]
    rw [show m + 1 + (f + 1) = (m + (f + 1)) + 1 from by lia]
    refine RX.while ?_
    walk_at "pure"
    refine IK.dt (by lia) ?_
    walk_at "pure"
    refine RE.cv J rfl hl ?_
    walk_at "pure"
    rw [show (((m + 1 : Nat) : Int) - 1) = (m : Int) from by lia]
    refine RS.some (item_list (x := .int sm) (J.lst l _ hl).1 (by rw [List.getElem?_map, hget]; rfl) (by lia)) ?_
    walk_at "pure"
    by_cases h0 : sm = 0
    · subst h0
      refine IK.bt rfl ?_
      walk_at "pure"
      by_cases ht : trimZ suf = []
      · have he : (trimZ suf).isEmpty = true := by rw [ht]; rfl
        rw [he]
        walk_at "pure"
        have hz : trimZ (0 :: suf) = [] := trimZ_cons_zero ht
        have := ih (0 :: suf) (some (.int 0)) (some (.int 0)) σ (by simp; lia) hdrop (by rw [hz]; rw [ht] at I; exact I)
        rw [hz] at this
        rw [ht]
        exact this
      · have he : (trimZ suf).isEmpty = false := by simpa using ht
        rw [he]
        walk_at "pure"
        refine RF.mono (prependV_spec I (v := 0) (by lia) (by decide) (by decide)) ?_
        rintro _ s1 ⟨rfl, I1⟩
        walk_at "pure"
        have hz : trimZ (0 :: suf) = 0 :: trimZ suf := trimZ_cons_more ht
        have e1 : leBytes 2 0 ++ al 2 0 (encV R (trimZ suf) ++ base) = encV R (trimZ (0 :: suf)) ++ base := by
          rw [al_id (by decide) (by rw [hdl]; lia), hz, encV_cons, if_pos rfl, List.append_assoc]
        rw [e1, show (({ S with ma := maxI S.ma 2 } : Bd)) = S from maxI_low hma] at I1
        have := ih (0 :: suf) (some (.int 0)) (some (.int 0)) s1 (by simp; lia) hdrop I1
        have e3 : (trimZ (0 :: suf)).isEmpty = false := by rw [hz]; rfl
        have e4 : (0 :: suf).length - (trimZ (0 :: suf)).length = suf.length - (trimZ suf).length := by rw [hz, List.length_cons, List.length_cons]; lia
        rw [e3, e4] at this
        exact this
    · refine IK.bf (by lia) ?_
      walk_at "pure"
      refine RF.mono (prependV_spec I (v := (R : Int) - sm) (by lia) (by lia) (by lia)) ?_
      rintro _ s1 ⟨rfl, I1⟩
      walk_at "pure"
      have hz : trimZ (sm :: suf) = sm :: trimZ suf := trimZ_cons_ne h0
      have e1 : leBytes 2 ((R : Int) - sm) ++ al 2 0 (encV R (trimZ suf) ++ base) = encV R (trimZ (sm :: suf)) ++ base := by
        rw [al_id (by decide) (by rw [hdl]; lia), hz, encV_cons, if_neg h0, List.append_assoc]
      rw [e1, show (({ S with ma := maxI S.ma 2 } : Bd)) = S from maxI_low hma] at I1
      have := ih (sm :: suf) (some (.int sm)) (some (.int ((R : Int) - sm))) s1 (by simp; lia) hdrop I1
      have e3 : (trimZ (sm :: suf)).isEmpty = false := by rw [hz]; rfl
      have e4 : (sm :: suf).length - (trimZ (sm :: suf)).length = suf.length - (trimZ suf).length := by rw [hz, List.length_cons, List.length_cons]; lia
      rw [e3, e4] at this
      exact this
end
end Mine
set_option maxRecDepth 100000
namespace Mine
section
variable {C C' : Nat → Option AO} {b : Nat} {S : Bd} {σ : AH} {r room : Nat} {data : List UInt8} {vars : Vars}
theorem iRev_eq {f : Ev} {l : Nat} {w : Bool} {xs : List AV} (h : RE f vars σ fun a s => a = .obj l ∧ s = σ) (hl : σ[l]? = some (.list w xs)) : iRev f vars σ = some (.rev l ((xs.length : Int) - 1), σ) := by
  obtain ⟨a, s, e, rfl, rfl⟩ := h
  unfold iRev evs evs
  rw [e]
  simp only [Option.bind_some, Option.map_some]
  rw [hl]
theorem len_list {l : Nat} {w : Bool} {xs : List AV} (hl : σ[l]? = some (.list w xs)) (hx : xs.length < 4611686018427387904) : fLen [.obj l] σ = some (.int xs.length, σ) := by
  unfold fLen lends
  dsimp only
  rw [hl]
  dsimp only
  rw [if_pos hx]
theorem tuple_list {l : Nat} {w : Bool} {xs : List AV} (hl : σ[l]? = some (.list w xs)) (hx : xs.length ≤ 16777216) : fTuple [.obj l] σ = some (.obj σ.length, σ ++ [.tup xs]) := by
  unfold fTuple
  dsimp only
  rw [hl]
  exact if_pos hx
/-- more is held -/
theorem BI.hold (I : BI C b S r data σ) {n : Nat} {x : AO} (h : σ[n]? = some x) (nb : n ≠ b) (nj : ∀ j pre, Inv C b (S.at j pre data) σ → n ≠ j) (nt : n ≠ S.t) (nl : ∀ l xs, S.vl = some (l, xs) → n ≠ l) : BI (fun i => if i = n then some x else C i) b S r data σ := by
  obtain ⟨j, pre, a, c, I⟩ := I
  refine ⟨j, pre, a, c, I.inst, I.dict, I.ba, I.tab, I.vtd, I.ntd, fun l xs e => ⟨(I.lst l xs e).1, ?_⟩, ?_, ?_, ?_, fun i ao e => ?_⟩
  · show (if l = n then some x else C l) = none
    rw [if_neg (Ne.symm (nl l xs e))]
    exact (I.lst l xs e).2
  · show (if b = n then some x else C b) = none
    rw [if_neg (Ne.symm nb)]
    exact I.cb
  · show (if j = n then some x else C j) = none
    rw [if_neg (Ne.symm (nj j pre I))]
    exact I.cj
  · show (if S.t = n then some x else C S.t) = none
    rw [if_neg (Ne.symm nt)]
    exact I.ct
  · have e : (if i = n then some x else C i) = some ao := e
    split at e
    · rename_i hi
      rw [hi, h]
      exact e
    · exact I.keep i ao e
theorem Inv.drop (I : Inv C' b S σ) (h : ∀ i ao, C i = some ao → C' i = some ao) : Inv C b S σ := by
  have n : ∀ {i}, C' i = none → C i = none := fun {i} e => by
    cases q : C i with
    | none => rfl
    | some ao => rw [h i ao q] at e; cases e
  exact ⟨I.inst, I.dict, I.ba, I.tab, I.vtd, I.ntd, fun l xs e => ⟨(I.lst l xs e).1, n (I.lst l xs e).2⟩, n I.cb, n I.cj, n I.ct, fun i ao e => I.keep i ao (h i ao e)⟩
theorem BI.drop (I : BI C' b S r data σ) (h : ∀ i ao, C i = some ao → C' i = some ao) : BI C b S r data σ := let ⟨j, pre, a, c, I⟩ := I; ⟨j, pre, a, c, I.drop h⟩
theorem Inv.junk (I : Inv C b S σ) : Inv C b { S with vt := .junk } (σ.set S.t .junk) := by
  have nb : S.t ≠ b := ne_of_get I.tab I.inst (by rcases I.vtd with e | e <;> rw [e] <;> intro e <;> cases e)
  have nj : S.t ≠ S.j := ne_of_get I.tab I.ba (by rcases I.vtd with e | e <;> rw [e] <;> intro e <;> cases e)
  refine ⟨get_set I.inst nb, get_set I.dict I.ntd, get_set I.ba nj, get_self I.tab, .inr rfl, I.ntd, fun l xs e => ?_, I.cb, I.cj, I.ct, fun i ao e => ?_⟩
  · obtain ⟨x, y⟩ := I.lst l xs e
    exact ⟨get_set x (ne_of_get I.tab x (by rcases I.vtd with e | e <;> rw [e] <;> intro e <;> cases e)), y⟩
  · refine get_set (I.keep i ao e) fun q => ?_
    rw [← q, I.ct] at e; cases e
/-- the table of a table -/
noncomputable def vtab (R oe : Nat) (xs : List Nat) : List UInt8 := leBytes 2 (2 * ((trimZ xs).length + 2) : Nat) ++ (leBytes 2 ((R : Int) - oe) ++ encV R (trimZ xs))
theorem vtab_length (R oe : Nat) (xs : List Nat) : (vtab R oe xs).length = 2 * ((trimZ xs).length + 2) := by
  unfold vtab
  rw [List.length_append, List.length_append, leBytes_length, leBytes_length, encV_length]
  lia
theorem writeVtable_spec {l oe : Nat} {xs : List Nat} (I : BI C b S r data σ) (hl : S.vl = some (l, xs.map fun s : Nat => AV.int s)) (hxs : xs.length = 4) (hxd : ∀ s ∈ xs, s ≤ data.length) (hoe : S.oe = .int oe) (hoed : oe ≤ data.length) (hd : data.length ≤ 50000) (hvt : S.vt = .edict) :
    RF f_Builder_WriteVtable [.obj b] σ fun v s => v = .int (4 + (al 4 0 data).length : Nat) ∧
      BI C b { S with ma := maxI S.ma 4, vt := .junk, vl := none } 0 (vtab (4 + (al 4 0 data).length) oe xs ++ (leBytes 4 (vtab (4 + (al 4 0 data).length) oe xs).length ++ al 4 0 data)) s := by
  obtain ⟨j, pre, hr, hc, J⟩ := id I
  have hal := al_length 4 0 data
  have hp := padN_lt (n := data.length + 0) (size := 4) (by decide)
  have hal4 : (al 4 0 data).length % 4 = 0 := by
    rw [hal]
    unfold padN
    lia
  generalize hR : 4 + (al 4 0 data).length = R
  refine RF.def rfl rfl ?_
  unfold x_Builder_WriteVtable
  walk_at "pure"
  refine RF.mono (prependS_spec I (by lia) (off := 0) (by lia)) ?_
  rintro _ s1 ⟨rfl, I1⟩
  have hv0 : ∃ v0, v0 = leBytes 4 (((al 4 0 data).length : Int) - ((0 : Nat) : Int) + 4) ∧ v0.length = 4 := ⟨_, rfl, leBytes_length _ _⟩
  obtain ⟨v0, e0, hv0⟩ := hv0
  rw [← e0] at I1
  clear e0
  have hbl : (v0 ++ al 4 0 data).length = R := by rw [List.length_append, hv0]; lia
  have hl1 : ({ S with ma := maxI S.ma ((4 : Nat) : Int) } : Bd).vl = some (l, xs.map fun s : Nat => AV.int s) := hl
  have hma : (2 : Int) ≤ ({ S with ma := maxI S.ma ((4 : Nat) : Int) } : Bd).ma := by
    show (2 : Int) ≤ maxI S.ma ((4 : Nat) : Int)
    unfold maxI
    split <;> lia
  have hoe1 : ({ S with ma := maxI S.ma ((4 : Nat) : Int) } : Bd).oe = .int oe := hoe
  have hvt1 : ({ S with ma := maxI S.ma ((4 : Nat) : Int) } : Bd).vt = .edict := hvt
  have hgoal : ({ ({ S with ma := maxI S.ma ((4 : Nat) : Int) } : Bd) with vt := .junk, vl := none } : Bd) = { S with ma := maxI S.ma 4, vt := .junk, vl := none } := rfl
  rw [← hgoal]
  clear hgoal
  have I1 : BI C b ({ S with ma := maxI S.ma ((4 : Nat) : Int) } : Bd) 0 (v0 ++ al 4 0 data) s1 := I1
  generalize ({ S with ma := maxI S.ma ((4 : Nat) : Int) } : Bd) = S1 at I1 hl1 hma hoe1 hvt1 ⊢
  obtain ⟨j1, pre1, hr1, hc1, J1⟩ := id I1
  walk_at "pure"
  refine RF.mono (offset_bi I1) ?_
  rintro _ s1 ⟨rfl, rfl⟩
  rw [hbl]
  walk_at "pure"
  have hlt : l < s1.length := (List.getElem?_eq_some_iff.mp (J1.lst l _ hl1).1).1
  have I2 := I1.app [.list true []]
  obtain ⟨j2, pre2, hr2, hc2, J2⟩ := id I2
  refine RX.for (iRev_eq (RE.cv J2 rfl hl1 ⟨rfl, rfl⟩) (J2.lst l _ hl1).1) ?_
  have h4 : ((xs.map fun s : Nat => AV.int s).length : Int) - 1 = ((4 : Nat) : Int) - 1 := by rw [List.length_map, hxs]
  rw [h4]
  refine key_loop hl1 (kk := s1.length) (by lia) J1.fresh ?_ 65 4 true none [] _ (by lia) I2 get_end ⟨[], rfl⟩ (by simp)
  intro t e ys s3 I3 hk3 hi3 hy3
  obtain ⟨j3, pre3, hr3, hc3, J3⟩ := id I3
  walk_at "pure"
  refine RE.bslot J3 rfl (a := .int oe) (by show some S1.oe = _; rw [hoe1]) rfl ?_
  walk_at "pure"
  refine RF.some (a := .int ((R : Int) - oe)) (s := s3) rfl ?_
  walk_at "pure"
  refine ⟨true, sel_list hk3, ?_⟩
  walk_at "pure"
  refine RF.some (append_list hk3 (by lia)) ?_
  walk_at "pure"
  have I4 := I3.list (x := .list true (ys ++ [.int ((R : Int) - oe)])) hl1 hk3 (by lia) J1.fresh
  have hk4 : (s3.set s1.length (.list true (ys ++ [.int ((R : Int) - oe)])))[s1.length]? = some (.list true (ys ++ [.int ((R : Int) - oe)])) := get_self hk3
  obtain ⟨is, his⟩ := ints_app (v := (R : Int) - oe) hi3
  have hy4 : (ys ++ [AV.int ((R : Int) - oe)]).length ≤ 101 := by simp; lia
  have hlen4 : s1.length < (s3.set s1.length (.list true (ys ++ [.int ((R : Int) - oe)]))).length := (List.getElem?_eq_some_iff.mp hk4).1
  generalize s3.set s1.length (.list true (ys ++ [.int ((R : Int) - oe)])) = s4 at I4 hk4 hlen4 ⊢
  generalize ys ++ [AV.int ((R : Int) - oe)] = zs at hk4 his hy4 ⊢
  refine RF.some (tuple_list hk4 (by lia)) ?_
  walk_at "pure"
  have I5 := I4.app [.tup zs]
  obtain ⟨j4, pre4, hr4, hc4, J4⟩ := id I4
  have htt : (s4 ++ [AO.tup zs])[s4.length]? = some (.tup zs) := get_end
  have hlt4 : l < s4.length := (List.getElem?_eq_some_iff.mp (J4.lst l _ hl1).1).1
  have hbt4 : b < s4.length := (List.getElem?_eq_some_iff.mp J4.inst).1
  have htt4 : S1.t < s4.length := (List.getElem?_eq_some_iff.mp J4.tab).1
  have hcf : C s4.length = none := J4.fresh
  have I6 : BI (fun i => if i = s4.length then some (.tup zs) else C i) b S1 0 (v0 ++ al 4 0 data) (s4 ++ [.tup zs]) := by
    refine I5.hold htt (by lia) (fun j pre J => ?_) (by lia) fun l' xs' e => ?_
    · exact ne_of_get htt J.ba (by intro e; cases e)
    · rw [hl1] at e; cases e; lia
  generalize hs5 : s4 ++ [AO.tup zs] = s5 at I6 htt ⊢
  generalize hC' : (fun i => if i = s4.length then some (AO.tup zs) else C i) = C' at I6
  have hCC : ∀ i ao, C i = some ao → C' i = some ao := fun i ao e => by
    rw [← hC']
    show (if i = s4.length then _ else _) = _
    rw [if_neg fun q => by rw [q, hcf] at e; cases e]
    exact e
  have hCt : C' s4.length = some (.tup zs) := by rw [← hC']; exact if_pos rfl
  obtain ⟨j6, pre6, hr6, hc6, J6⟩ := id I6
  have htab : s5[S1.t]? = some .edict := by have := J6.tab; rw [show (S1.at j6 pre6 (v0 ++ al 4 0 data)).vt = S1.vt from rfl, hvt1] at this; exact this
  walk_at "pure"
  refine ⟨true, by unfold selDict; dsimp only; rw [show s5[(S1.at j6 pre6 (v0 ++ al 4 0 data)).t]? = some .edict from htab], ?_⟩
  walk_at "pure"
  refine RF.some (a := .none) (s := s5) ?_ ?_
  · show fGet [.obj S1.t, .obj s4.length] s5 = _
    unfold fGet
    dsimp only
    rw [htab, htt]
    dsimp only
    rw [his]
    rfl
  walk_at "pure"
  refine RE.cv J6 rfl hl1 ?_
  walk_at "pure"
  refine RF.some (len_list (J6.lst l _ hl1).1 (by simp; lia)) ?_
  rw [show ((xs.map fun s : Nat => AV.int s).length : Int) = ((4 : Nat) : Int) by rw [List.length_map, hxs]]
  walk_at "pure"
  have htz := trimZ_length xs
  refine vt_loop (base := v0 ++ al 4 0 data) hl1 (by lia) (R := R) (by lia) (fun s hs => Nat.le_trans (hxd s hs) (by lia)) hma (by rw [hbl]; lia) (by rw [hbl]; lia) ?_ 35 4 [] e none s5 (by simp [hxs]) (by rw [← hxs, List.drop_length]) I6
  intro t2 e2 o2 s7 I7
  have hel := encV_length R (trimZ xs)
  obtain ⟨j7, pre7, hr7, hc7, J7⟩ := id I7
  walk_at "pure"
  refine RF.some (a := .int ((R : Int) - oe)) (s := s7) rfl ?_
  walk_at "pure"
  have hd7 : (encV R (trimZ xs) ++ (v0 ++ al 4 0 data)).length = 2 * (trimZ xs).length + R := by rw [List.length_append, hel, hbl]
  refine RF.mono (prependV_spec I7 (v := (R : Int) - oe) (by lia) (by lia) (by lia)) ?_
  rintro _ s8 ⟨rfl, I8⟩
  rw [show (({ S1 with ma := maxI S1.ma 2 } : Bd)) = S1 from maxI_low hma, al_id (by decide) (by rw [hd7]; lia)] at I8
  obtain ⟨j8, pre8, hr8, hc8, J8⟩ := id I8
  walk_at "pure"
  refine RE.cv J8 rfl hl1 ?_
  walk_at "pure"
  refine RF.some (len_list (J8.lst l _ hl1).1 (by simp; lia)) ?_
  walk_at "pure"
  refine RS.mulR (by decide) ?_
  walk_at "pure"
  have evb : (((xs.map fun s : Nat => AV.int s).length : Int) - ((xs.length - (trimZ xs).length : Nat) : Int) + 2) * 2 = ((2 * ((trimZ xs).length + 2) : Nat) : Int) := by rw [List.length_map]; lia
  rw [evb]
  refine RF.some (a := .int ((2 * ((trimZ xs).length + 2) : Nat) : Int)) (s := s8) rfl ?_
  walk_at "pure"
  have hd8 : (leBytes 2 ((R : Int) - oe) ++ (encV R (trimZ xs) ++ (v0 ++ al 4 0 data))).length = 2 + (2 * (trimZ xs).length + R) := by rw [List.length_append, leBytes_length, hd7]
  refine RF.mono (prependV_spec I8 (v := ((2 * ((trimZ xs).length + 2) : Nat) : Int)) (by lia) (by lia) (by lia)) ?_
  rintro _ s9 ⟨rfl, I9⟩
  rw [show (({ S1 with ma := maxI S1.ma 2 } : Bd)) = S1 from maxI_low hma, al_id (by decide) (by rw [hd8]; lia)] at I9
  have hvtl := vtab_length R oe xs
  have ev : leBytes 2 ((2 * ((trimZ xs).length + 2) : Nat) : Int) ++ (leBytes 2 ((R : Int) - oe) ++ (encV R (trimZ xs) ++ (v0 ++ al 4 0 data))) = vtab R oe xs ++ (v0 ++ al 4 0 data) := by
    unfold vtab
    simp only [List.append_assoc]
  rw [ev] at I9
  generalize vtab R oe xs = V at I9 hvtl ⊢
  have hd9 : (V ++ (v0 ++ al 4 0 data)).length = V.length + R := by rw [List.length_append, hbl]
  obtain ⟨j9, pre9, hr9, hc9, J9⟩ := id I9
  walk_at "pure"
  have hbs : (S1.at j9 pre9 (V ++ (v0 ++ al 4 0 data))).bs.length = pre9.length + (V.length + R) := by
    show (pre9 ++ (V ++ (v0 ++ al 4 0 data))).length = _
    rw [List.length_append, hd9]
  refine RF.some (J9.len (by rw [hbs]; lia)) ?_
  walk_at "pure"
  rw [hbs, show ((pre9.length + (V.length + R) : Nat) : Int) - (R : Int) = ((pre9.length + V.length : Nat) : Int) from by lia]
  refine RF.some (a := .int ((pre9.length + V.length : Nat) : Int)) (s := s9) rfl ?_
  walk_at "pure"
  refine RF.mono (offset_bi I9) ?_
  rintro _ s9 ⟨rfl, rfl⟩
  walk_at "pure"
  rw [hd9, show ((V.length + R : Nat) : Int) - (R : Int) = (V.length : Int) from by lia]
  refine RF.some (a := .int (V.length : Int)) (s := s9) rfl ?_
  walk_at "pure"
  refine RF.mono (write_spec J9 (x := 54) (c := 'i') (u := 105) (n := 4) (k := ((pre9.length + V.length : Nat) : Int)) (v := (V.length : Int)) rfl (by lia) (by rw [hbs]; lia) (by rw [hbs]; lia) ?_ ?_) ?_
  · show -2147483648 ≤ (V.length : Int)
    lia
  · show (V.length : Int) ≤ 2147483647
    lia
  rintro _ s10 ⟨rfl, J10⟩
  have eput : putAt (pre9 ++ (V ++ (v0 ++ al 4 0 data))) ((pre9.length + V.length : Nat) : Int).toNat (leBytes 4 (V.length : Int)) = pre9 ++ (V ++ (leBytes 4 (V.length : Int) ++ al 4 0 data)) := by
    have := putAt_mid (pre9 ++ V) v0 (al 4 0 data) (leBytes 4 (V.length : Int)) (by rw [leBytes_length, hv0])
    rw [Int.toNat_natCast]
    rw [List.length_append] at this
    simpa only [List.append_assoc] using this
  have J11 : Inv C' b (S1.at j9 pre9 (V ++ (leBytes 4 (V.length : Int) ++ al 4 0 data))) s10 := by
    have e : ({ (S1.at j9 pre9 (V ++ (v0 ++ al 4 0 data))) with bs := putAt (pre9 ++ (V ++ (v0 ++ al 4 0 data))) ((pre9.length + V.length : Nat) : Int).toNat (leBytes 4 (V.length : Int)) } : Bd) = S1.at j9 pre9 (V ++ (leBytes 4 (V.length : Int) ++ al 4 0 data)) := by
      rw [eput]; rfl
    rw [← e]; exact J10
  have hd11 : (V ++ (leBytes 4 (V.length : Int) ++ al 4 0 data)).length = V.length + R := by rw [List.length_append, List.length_append, leBytes_length]; lia
  have I11 : BI C' b S1 0 (V ++ (leBytes 4 (V.length : Int) ++ al 4 0 data)) s10 := ⟨j9, pre9, Nat.zero_le _, by rw [hd11, ← hd9]; exact hc9, J11⟩
  clear J10 J9 J8 J7
  walk_at "pure"
  refine RF.mono (offset_bi I11) ?_
  rintro _ s10 ⟨rfl, rfl⟩
  walk_at "pure"
  have htab10 : s10[S1.t]? = some .edict := by have := J11.tab; rw [show (S1.at j9 pre9 (V ++ (leBytes 4 (V.length : Int) ++ al 4 0 data))).vt = S1.vt from rfl, hvt1] at this; exact this
  refine ⟨s10.set S1.t .junk, ?_, ?_⟩
  · show putItem (.obj S1.t) (.obj s4.length) (.int _) s10 = _
    unfold putItem
    dsimp only
    rw [htab10, J11.keep _ _ hCt]
    dsimp only
    rw [his]
  have J12 := J11.junk
  walk_at "pure"
  obtain ⟨s13, e13, J13⟩ := J12.noVl
  refine RX.set (RE.const (RE.var rfl ⟨s13, e13, ?_⟩))
  walk_at "pure"
  exact ⟨j9, pre9, Nat.zero_le _, by rw [hd11, ← hd9]; exact hc9, J13.drop hCC⟩
theorem endObject_spec {l oe : Nat} {xs : List Nat} (I : BI C b S r data σ) (hn : S.nested = true) (hl : S.vl = some (l, xs.map fun s : Nat => AV.int s)) (hxs : xs.length = 4) (hxd : ∀ s ∈ xs, s ≤ data.length) (hoe : S.oe = .int oe) (hoed : oe ≤ data.length) (hd : data.length ≤ 50000) (hvt : S.vt = .edict) :
    RF f_Builder_EndObject [.obj b] σ fun v s => v = .int (4 + (al 4 0 data).length : Nat) ∧
      BI C b { S with ma := maxI S.ma 4, vt := .junk, vl := none, nested := false } 0 (vtab (4 + (al 4 0 data).length) oe xs ++ (leBytes 4 (vtab (4 + (al 4 0 data).length) oe xs).length ++ al 4 0 data)) s := by
  obtain ⟨j, pre, hr, hc, J⟩ := id I
  refine RF.def rfl rfl ?_
  unfold x_Builder_EndObject
  walk_at "pure"
  refine RF.mono (assertNested_spec J hn) ?_
  rintro _ s ⟨rfl, rfl⟩
  walk_at "pure"
  refine setNested_bi (f := eNo) I rfl fun s1 I1 => ?_
  obtain ⟨j1, pre1, hr1, hc1, J1⟩ := id I1
  walk_at "pure"
  refine RF.mono (writeVtable_spec I1 hl hxs hxd hoe hoed hd hvt) ?_
  rintro _ s2 ⟨rfl, I2⟩
  walk_at "pure"
  exact I2
end
end Mine
set_option maxRecDepth 100000
namespace Mine
/-- the front of a buffer -/
noncomputable def rootD (root : Nat) (d3 : List UInt8) : List UInt8 := leBytes 4 ((d3.length : Int) - root + 4) ++ d3
noncomputable def sizeD (sp : Bool) (d4 : List UInt8) : List UInt8 := if sp then leBytes 4 d4.length ++ d4 else d4
noncomputable def finD (M root : Nat) (fid : List UInt8) (sp : Bool) (data : List UInt8) : List UInt8 := sizeD sp (rootD root (fid ++ al M (4 + fid.length + if sp then 4 else 0) data))
theorem le1 (x : UInt8) : leBytes 1 (x.toNat : Int) = [x] := by
  have h := x.toNat_lt
  have e : ((x.toNat : Int) % 2 ^ (8 * 1)).toNat / 256 ^ 0 % 256 = x.toNat := by
    show ((x.toNat : Int) % 256).toNat / 1 % 256 = _
    lia
  show [(((x.toNat : Int) % 2 ^ (8 * 1)).toNat / 256 ^ 0 % 256).toUInt8] = [x]
  rw [e]
  congr 1
  exact UInt8.ofNat_toNat
section
variable {C C' : Nat → Option AO} {b : Nat} {S : Bd} {σ : AH} {r room : Nat} {data : List UInt8} {vars : Vars}
theorem al_mod {M P : Nat} (hM : M = 4 ∨ M = 8) : ((al M P data).length + P) % M = 0 := by
  rw [al_length]
  unfold padN
  rcases hM with rfl | rfl <;> lia
theorem finish_tail {M root : Nat} {sp : Bool} {f6 : Option AV} {a3 a4 a5 : Option AV} {Q : AV → AH → Prop} (I : BI C b S r data σ) (hma : S.ma = (M : Int)) (hM : M = 4 ∨ M = 8) (hd : data.length ≤ 90000) (hd4 : data.length % 4 = 0) (hr : root ≤ data.length)
    (q : ∀ (h : Int) (s : AH), BI C b { S with fin := true } 0 (sizeD sp (rootD root data)) s → Q (.int h) s) :
    RX (xSeq (xExpr (eMeth (eVar 0) (selI .builder) ([(eVar 1)] ++ []) f_Builder_PrependUOffsetTRelative)) (xSeq (xIf (bVal (eVar 2)) (xSeq (xAsg 6 (eBin mSub (eCall ([(eAttr (eVar 0) (semSlot .builder 0))] ++ []) fLen) (eAttr (eVar 0) (semSlot .builder 4)))) (xSeq (xExpr (eCall ([(eVar 6), (eSt (.ref 120))] ++ []) f_enforce_number)) (xSeq (xExpr (eMeth (eVar 0) (selI .builder) ([(eVar 6)] ++ []) f_Builder_PrependInt32)) xNil))) xNil) (xSeq (xSet .builder 2 (eVar 0) (eConst (.bool true))) (xSeq (xRet (eAttr (eVar 0) (semSlot .builder 4))) xNil))))
      [some (.obj b), some (.int root), some (.bool sp), a3, a4, a5, f6] σ (FK Q) := by
  obtain ⟨j, pre, hr0, hc, J⟩ := id I
  have hm4 : ({ S with ma := maxI S.ma 4 } : Bd) = S := maxI_low (by lia)
  walk_at "pure"
  refine RF.mono (prependU_spec I (by lia) hr) ?_
  rintro _ s1 ⟨rfl, I1⟩
  rw [al_id (by decide) (by lia), hm4] at I1
  have I1 : BI C b S 0 (rootD root data) s1 := I1
  have hl : (rootD root data).length = data.length + 4 := by unfold rootD; rw [List.length_append, leBytes_length]; lia
  generalize rootD root data = d4 at I1 hl q ⊢
  obtain ⟨j1, pre1, hr1, hc1, J1⟩ := id I1
  walk_at "pure"
  cases sp with
  | false =>
    walk_at "pure"
    refine RX.sFin (RE.const ⟨_, _, J1, rfl, rfl, fun s2 J2 => ?_⟩)
    walk_at "pure"
    exact q _ _ ⟨j1, pre1, hr1, hc1, J2⟩
  | true =>
    walk_at "pure"
    have hbs : (S.at j1 pre1 d4).bs.length = pre1.length + d4.length := by show (pre1 ++ d4).length = _; rw [List.length_append]
    refine RF.some (J1.len (by rw [hbs]; lia)) ?_
    walk_at "pure"
    rw [hbs, show ((pre1.length + d4.length : Nat) : Int) - (S.at j1 pre1 d4).head = (d4.length : Int) from by show ((pre1.length + d4.length : Nat) : Int) - (pre1.length : Int) = _; lia]
    refine RF.mono (enforce_spec ca_120_lo ca_120_hi (by lia) (by lia)) ?_
    rintro _ s1 ⟨rfl, rfl⟩
    walk_at "pure"
    refine RF.mono (prependI32_spec I1 (by lia) (by lia) (by lia)) ?_
    rintro _ s2 ⟨rfl, I2⟩
    rw [al_id (by decide) (by lia), hm4] at I2
    obtain ⟨j2, pre2, hr2, hc2, J2⟩ := id I2
    walk_at "pure"
    refine RX.sFin (RE.const ⟨_, _, J2, rfl, rfl, fun s3 J3 => ?_⟩)
    walk_at "pure"
    exact q _ _ ⟨j2, pre2, hr2, hc2, J3⟩
theorem finish_none {M root : Nat} {sp : Bool} (I : BI C b S r data σ) (hma : S.ma = (M : Int)) (hM : M = 4 ∨ M = 8) (hd : data.length ≤ 60000) (hr : root ≤ data.length) :
    RF f_Builder__Finish [.obj b, .int root, .bool sp, .none] σ fun v s => (∃ h : Int, v = .int h) ∧ BI C b { S with fin := true } 0 (finD M root [] sp data) s := by
  obtain ⟨j, pre, hr0, hc, J⟩ := id I
  have hmM : ({ S with ma := maxI S.ma (M : Int) } : Bd) = S := maxI_low (by lia)
  have hMs : M = 1 ∨ M = 2 ∨ M = 4 ∨ M = 8 := by lia
  have hM0 : 0 < M := by lia
  refine RF.def rfl rfl ?_
  unfold x_Builder__Finish
  walk_at "pure"
  refine RF.mono (enforce_spec ca_146_lo ca_146_hi (by lia) (by lia)) ?_
  rintro _ s ⟨rfl, rfl⟩
  walk_at "pure"
  cases sp with
  | false =>
    walk_at "pure"
    rw [show (S.at j pre data).ma = (M : Int) from hma]
    refine RF.mono (prep_bi (size := M) (add := 4) I hMs (by lia)) ?_
    rintro _ s1 ⟨rfl, I1⟩
    rw [hmM] at I1
    have hal := al_length M 4 data
    have hpn := padN_lt (n := data.length + 4) hM0
    have hmod := al_mod (data := data) (P := 4) hM
    refine ⟨rfl, SK.next (RX.seq (RX.ite (RB.cmp (RE.var rfl (RE.const (RC.s rfl (IK.f (RX.nil (SK.next (finish_tail (M := M) (root := root) I1 hma hM (by lia) (by rcases hM with rfl | rfl <;> lia) (by lia) fun h s2 I2 => ?_))))))))))⟩
    exact ⟨⟨h, rfl⟩, I2⟩
  | true =>
    walk_at "pure"
    rw [show (S.at j pre data).ma = (M : Int) from hma]
    refine RF.mono (prep_bi (size := M) (add := 8) I hMs (by lia)) ?_
    rintro _ s1 ⟨rfl, I1⟩
    rw [hmM] at I1
    have hal := al_length M 8 data
    have hpn := padN_lt (n := data.length + 8) hM0
    have hmod := al_mod (data := data) (P := 8) hM
    refine ⟨rfl, SK.next (RX.seq (RX.ite (RB.cmp (RE.var rfl (RE.const (RC.s rfl (IK.f (RX.nil (SK.next (finish_tail (M := M) (root := root) I1 hma hM (by lia) (by rcases hM with rfl | rfl <;> lia) (by lia) fun h s2 I2 => ?_))))))))))⟩
    exact ⟨⟨h, rfl⟩, I2⟩
theorem place1_spec (I : BI C b S (room + 1) data σ) {x : UInt8} : RF f_Builder_Place [.obj b, .int x.toNat, .st (.ref 64)] σ fun v s => v = .none ∧ BI C b S room (x :: data) s := by
  have := x.toNat_lt
  refine RF.mono (place_spec (n := 1) (room := room) (lo := 0) (hi := 255) (v := x.toNat) I ca_64_bw ca_64_lo ca_64_hi ca_64_pk rfl rfl rfl (by lia) (by lia)) ?_
  rintro _ s ⟨rfl, I⟩
  rw [le1] at I
  exact ⟨rfl, I⟩
theorem ids_loop {x0 x1 x2 x3 : UInt8} {tt : Nat} {v1 v2 v4 v5 v6 : Option AV} {Q : Fl → Vars → AH → Prop} (I : BI C b S 4 data σ) (ht : C tt = some (.tup [.int x0.toNat, .int x1.toNat, .int x2.toNat, .int x3.toNat]))
    (q : ∀ w s, BI C b S 0 (x0 :: x1 :: x2 :: x3 :: data) s → Q .next [some (.obj b), v1, v2, some (.obj tt), v4, w, v6] s) :
    RX (xFor 5 70 (iRange [(eBin mSub (eConst (.int 4)) (eConst (.int 1))), (eUn mNeg (eConst (.int 1))), (eUn mNeg (eConst (.int 1)))]) (xSeq (xExpr (eMeth (eVar 0) (selI .builder) ([(eBin gItem (eVar 3) (eVar 5)), (eSt (.ref 64))] ++ []) f_Builder_Place)) xNil))
      [some (.obj b), v1, v2, some (.obj tt), v4, v5, v6] σ Q := by
  refine RX.for (I := .rng 3 4 (-1)) (s := σ) rfl ?_
  obtain ⟨j, pre, hr0, hc, J⟩ := id I
  refine RX.forS (a := .int 3) (J := .rng 2 3 (-1)) rfl (of_decide_eq_true rfl) ?_
  walk_at "pure"
  refine RS.some (item_tup (k := 3) (x := .int x3.toNat) (J.keep _ _ ht) rfl (by decide)) ?_
  walk_at "pure"
  refine RF.mono (place1_spec (room := 3) I) ?_
  rintro _ s1 ⟨rfl, I1⟩
  obtain ⟨j1, pre1, hr1, hc1, J1⟩ := id I1
  walk_at "pure"
  refine RX.forS (a := .int 2) (J := .rng 1 2 (-1)) rfl (of_decide_eq_true rfl) ?_
  walk_at "pure"
  refine RS.some (item_tup (k := 2) (x := .int x2.toNat) (J1.keep _ _ ht) rfl (by decide)) ?_
  walk_at "pure"
  refine RF.mono (place1_spec (room := 2) I1) ?_
  rintro _ s2 ⟨rfl, I2⟩
  obtain ⟨j2, pre2, hr2, hc2, J2⟩ := id I2
  walk_at "pure"
  refine RX.forS (a := .int 1) (J := .rng 0 1 (-1)) rfl (of_decide_eq_true rfl) ?_
  walk_at "pure"
  refine RS.some (item_tup (k := 1) (x := .int x1.toNat) (J2.keep _ _ ht) rfl (by decide)) ?_
  walk_at "pure"
  refine RF.mono (place1_spec (room := 1) I2) ?_
  rintro _ s3 ⟨rfl, I3⟩
  obtain ⟨j3, pre3, hr3, hc3, J3⟩ := id I3
  walk_at "pure"
  refine RX.forS (a := .int 0) (J := .rng (-1) 0 (-1)) rfl (of_decide_eq_true rfl) ?_
  walk_at "pure"
  refine RS.some (item_tup (k := 0) (x := .int x0.toNat) (J3.keep _ _ ht) rfl (by decide)) ?_
  walk_at "pure"
  refine RF.mono (place1_spec (room := 0) I3) ?_
  rintro _ s4 ⟨rfl, I4⟩
  walk_at "pure"
  refine RX.forE rfl ?_
  exact q _ _ I4
theorem finish_some {M root : Nat} {sp : Bool} {x0 x1 x2 x3 : UInt8} (I : BI C b S r data σ) (hma : S.ma = (M : Int)) (hM : M = 4 ∨ M = 8) (hd : data.length ≤ 60000) (hr : root ≤ data.length) :
    RF f_Builder__Finish [.obj b, .int root, .bool sp, .bytes [x0, x1, x2, x3]] σ fun v s => (∃ h : Int, v = .int h) ∧ BI C b { S with fin := true } 0 (finD M root [x0, x1, x2, x3] sp data) s := by
  obtain ⟨j, pre, hr0, hc, J⟩ := id I
  have hmM : ({ S with ma := maxI S.ma (M : Int) } : Bd) = S := maxI_low (by lia)
  have hm4 : ({ S with ma := maxI S.ma 4 } : Bd) = S := maxI_low (by lia)
  have hMs : M = 1 ∨ M = 2 ∨ M = 4 ∨ M = 8 := by lia
  have hM0 : 0 < M := by lia
  refine RF.def rfl rfl ?_
  unfold x_Builder__Finish
  walk_at "pure"
  refine RF.mono (enforce_spec ca_146_lo ca_146_hi (by lia) (by lia)) ?_
  rintro _ s ⟨rfl, rfl⟩
  walk_at "pure"
  cases sp with
  | false =>
    walk_at "pure"
    rw [show (S.at j pre data).ma = (M : Int) from hma]
    refine RF.mono (prep_bi (size := M) (add := 8) I hMs (by lia)) ?_
    rintro _ s1 ⟨rfl, I1⟩
    rw [hmM] at I1
    have hal := al_length M 8 data
    have hpn := padN_lt (n := data.length + 8) hM0
    have hmod := al_mod (data := data) (P := 8) hM
    obtain ⟨j1, pre1, hr1, hc1, J1⟩ := id I1
    walk_at "pure"
    refine RF.mono (prep_bi (size := 4) (add := 4) I1 (by lia) (by lia)) ?_
    rintro _ s2 ⟨rfl, I2⟩
    rw [show (({ S with ma := maxI S.ma ((4 : Nat) : Int) } : Bd)) = S from hm4, al_id (by decide) (by rcases hM with rfl | rfl <;> lia)] at I2
    obtain ⟨j2, pre2, hr2, hc2, J2⟩ := id I2
    walk_at "pure"
    refine RF.some (a := .obj s2.length) (s := s2 ++ [.tup [.int x0.toNat, .int x1.toNat, .int x2.toNat, .int x3.toNat]]) rfl ?_
    walk_at "pure"
    have hbt : b < s2.length := (List.getElem?_eq_some_iff.mp J2.inst).1
    have htt : S.t < s2.length := (List.getElem?_eq_some_iff.mp J2.tab).1
    have hcf : C s2.length = none := J2.fresh
    have I3 := BI.hold (I2.app [.tup [.int x0.toNat, .int x1.toNat, .int x2.toNat, .int x3.toNat]]) get_end (by lia) (fun j pre J => ne_of_get get_end J.ba (by intro e; cases e)) (by lia) (fun l xs e => by
      have := (List.getElem?_eq_some_iff.mp (J2.lst l xs e).1).1
      lia)
    refine ids_loop (I3.le (by lia)) (if_pos rfl) fun w s4 I4 => ?_
    have I5 := BI.drop (C := C) I4 (fun i ao e => by
      show (if i = s2.length then _ else _) = _
      rw [if_neg fun q => by rw [q, hcf] at e; cases e]
      exact e)
    refine SK.next (RX.nil (SK.next (finish_tail (M := M) (root := root) I5 hma hM (by simp; lia) (by simp only [List.length_cons]; rcases hM with rfl | rfl <;> lia) (by simp; lia) fun h s6 I6 => ?_)))
    exact ⟨⟨h, rfl⟩, I6⟩
  | true =>
    walk_at "pure"
    rw [show (S.at j pre data).ma = (M : Int) from hma]
    refine RF.mono (prep_bi (size := M) (add := 12) I hMs (by lia)) ?_
    rintro _ s1 ⟨rfl, I1⟩
    rw [hmM] at I1
    have hal := al_length M 12 data
    have hpn := padN_lt (n := data.length + 12) hM0
    have hmod := al_mod (data := data) (P := 12) hM
    obtain ⟨j1, pre1, hr1, hc1, J1⟩ := id I1
    walk_at "pure"
    refine RF.mono (prep_bi (size := 4) (add := 4) I1 (by lia) (by lia)) ?_
    rintro _ s2 ⟨rfl, I2⟩
    rw [show (({ S with ma := maxI S.ma ((4 : Nat) : Int) } : Bd)) = S from hm4, al_id (by decide) (by rcases hM with rfl | rfl <;> lia)] at I2
    obtain ⟨j2, pre2, hr2, hc2, J2⟩ := id I2
    walk_at "pure"
    refine RF.some (a := .obj s2.length) (s := s2 ++ [.tup [.int x0.toNat, .int x1.toNat, .int x2.toNat, .int x3.toNat]]) rfl ?_
    walk_at "pure"
    have hbt : b < s2.length := (List.getElem?_eq_some_iff.mp J2.inst).1
    have htt : S.t < s2.length := (List.getElem?_eq_some_iff.mp J2.tab).1
    have hcf : C s2.length = none := J2.fresh
    have I3 := BI.hold (I2.app [.tup [.int x0.toNat, .int x1.toNat, .int x2.toNat, .int x3.toNat]]) get_end (by lia) (fun j pre J => ne_of_get get_end J.ba (by intro e; cases e)) (by lia) (fun l xs e => by
      have := (List.getElem?_eq_some_iff.mp (J2.lst l xs e).1).1
      lia)
    refine ids_loop (I3.le (by lia)) (if_pos rfl) fun w s4 I4 => ?_
    have I5 := BI.drop (C := C) I4 (fun i ao e => by
      show (if i = s2.length then _ else _) = _
      rw [if_neg fun q => by rw [q, hcf] at e; cases e]
      exact e)
    refine SK.next (RX.nil (SK.next (finish_tail (M := M) (root := root) I5 hma hM (by simp; lia) (by simp only [List.length_cons]; rcases hM with rfl | rfl <;> lia) (by simp; lia) fun h s6 I6 => ?_)))
    exact ⟨⟨h, rfl⟩, I6⟩
theorem finish_spec {M root : Nat} {fa : AV} {fid : List UInt8} (I : BI C b S r data σ) (hf : (fa = .none ∧ fid = []) ∨ ∃ x0 x1 x2 x3, fa = .bytes [x0, x1, x2, x3] ∧ fid = [x0, x1, x2, x3]) (hma : S.ma = (M : Int)) (hM : M = 4 ∨ M = 8) (hd : data.length ≤ 60000) (hr : root ≤ data.length) :
    RF f_Builder_Finish [.obj b, .int root, fa] σ fun v s => (∃ h : Int, v = .int h) ∧ BI C b { S with fin := true } 0 (finD M root fid false data) s := by
  obtain ⟨j, pre, hr0, hc, J⟩ := id I
  refine RF.def rfl rfl ?_
  unfold x_Builder_Finish
  walk_at "pure"
  rcases hf with ⟨rfl, rfl⟩ | ⟨x0, x1, x2, x3, rfl, rfl⟩
  · refine RF.mono (finish_none I hma hM hd hr) ?_
    rintro _ s ⟨⟨h, rfl⟩, I⟩
    walk_at "pure"
    exact ⟨⟨h, rfl⟩, I⟩
  · refine RF.mono (finish_some I hma hM hd hr) ?_
    rintro _ s ⟨⟨h, rfl⟩, I⟩
    walk_at "pure"
    exact ⟨⟨h, rfl⟩, I⟩
theorem finishSized_spec {M root : Nat} {fa : AV} {fid : List UInt8} (I : BI C b S r data σ) (hf : (fa = .none ∧ fid = []) ∨ ∃ x0 x1 x2 x3, fa = .bytes [x0, x1, x2, x3] ∧ fid = [x0, x1, x2, x3]) (hma : S.ma = (M : Int)) (hM : M = 4 ∨ M = 8) (hd : data.length ≤ 60000) (hr : root ≤ data.length) :
    RF f_Builder_FinishSizePrefixed [.obj b, .int root, fa] σ fun v s => (∃ h : Int, v = .int h) ∧ BI C b { S with fin := true } 0 (finD M root fid true data) s := by
  obtain ⟨j, pre, hr0, hc, J⟩ := id I
  refine RF.def rfl rfl ?_
  unfold x_Builder_FinishSizePrefixed
  walk_at "pure"
  rcases hf with ⟨rfl, rfl⟩ | ⟨x0, x1, x2, x3, rfl, rfl⟩
  · refine RF.mono (finish_none I hma hM hd hr) ?_
    rintro _ s ⟨⟨h, rfl⟩, I⟩
    walk_at "pure"
    exact ⟨⟨h, rfl⟩, I⟩
  · refine RF.mono (finish_some I hma hM hd hr) ?_
    rintro _ s ⟨⟨h, rfl⟩, I⟩
    walk_at "pure"
    exact ⟨⟨h, rfl⟩, I⟩
theorem output_spec (I : BI C b S r data σ) (hf : S.fin = true) : RF f_Builder_Output [.obj b] σ fun v s => ∃ k, v = .obj k ∧ s = σ ++ [.ba data] ∧ k = σ.length := by
  obtain ⟨j, pre, hr0, hc, J⟩ := id I
  refine RF.def rfl rfl ?_
  unfold x_Builder_Output
  walk_at "pure"
  rw [show (S.at j pre data).fin = true from hf]
  walk_at "pure"
  refine ⟨some pre.length, none, ?_, rfl, ?_⟩
  · show (if (0 : Int) ≤ (pre.length : Int) then some (some (pre.length : Int).toNat) else none) = _
    rw [if_pos (by lia), Int.toNat_natCast]
  · refine RS.some (a := .obj σ.length) (s := σ ++ [.ba data]) ?_ ?_
    · show gCut (.obj j) (some pre.length) none σ = _
      unfold gCut
      dsimp only
      rw [show σ[j]? = some (.ba (pre ++ data)) from J.ba]
      dsimp only
      rw [if_pos (by simp; lia)]
      unfold cutL
      simp
    · walk_at "pure"
      rfl
end
end Mine
set_option maxRecDepth 100000
namespace Mine
/-- octets that begin so many ahead of the end -/
noncomputable def At (D : List UInt8) (n : Nat) (X : List UInt8) : Prop := ∃ pre post, D = pre ++ (X ++ post) ∧ X.length + post.length = n
theorem At.pre {D : List UInt8} {n : Nat} {X : List UInt8} (h : At D n X) (P : List UInt8) : At (P ++ D) n X := by
  obtain ⟨a, b, rfl, e⟩ := h
  exact ⟨P ++ a, b, by simp [List.append_assoc], e⟩
theorem At.of {X r : List UInt8} {n : Nat} (h : X.length + r.length = n) : At (X ++ r) n X := ⟨[], r, rfl, h⟩
theorem At.le {D : List UInt8} {n : Nat} {X : List UInt8} (h : At D n X) : n ≤ D.length ∧ X.length ≤ n := by
  obtain ⟨a, b, rfl, e⟩ := h
  simp
  lia
theorem At.left {D X Y : List UInt8} {n : Nat} (h : At D n (X ++ Y)) : At D n X := by
  obtain ⟨a, b, rfl, e⟩ := h
  exact ⟨a, Y ++ b, by simp [List.append_assoc], by simp at e ⊢; lia⟩
theorem At.right {D X Y : List UInt8} {n : Nat} (h : At D n (X ++ Y)) : At D (n - X.length) Y := by
  obtain ⟨a, b, rfl, e⟩ := h
  exact ⟨a ++ X, b, by simp [List.append_assoc], by simp at e; lia⟩
theorem At.al {D X : List UInt8} {n s a : Nat} (h : At D n X) : At (al s a D) n X := h.pre _
section
variable {C : Nat → Option AO} {b : Nat} {S : Bd} {σ : AH} {r room : Nat} {data : List UInt8} {vars : Vars}
noncomputable def maOK (m : Int) : Prop := m = 1 ∨ m = 4 ∨ m = 8
theorem maOK.max4 {m : Int} (h : maOK m) : maOK (maxI m 4) := by unfold maOK maxI at *; rcases h with rfl | rfl | rfl <;> decide
theorem maOK.max8 {m : Int} (h : maOK m) : maOK (maxI m 8) := by unfold maOK maxI at *; rcases h with rfl | rfl | rfl <;> decide
theorem maOK.four {m : Int} (h : maOK m) : maxI m 4 = ((4 : Nat) : Int) ∨ maxI m 4 = ((8 : Nat) : Int) := by unfold maOK maxI at *; rcases h with rfl | rfl | rfl <;> decide
/-- a builder at work on a table -/
structure OB (C : Nat → Option AO) (b : Nat) (oe : Nat) (xs : List Nat) (data : List UInt8) (σ : AH) : Prop where
  bi : ∃ S l, BI C b S 0 data σ ∧ S.vl = some (l, xs.map fun s : Nat => AV.int s) ∧ S.nested = true ∧ S.oe = .int oe ∧ S.vt = .edict ∧ S.fin = false ∧ maOK S.ma
theorem set_map {xs : List Nat} {k s : Nat} : (xs.map fun s : Nat => AV.int s).set k (.int s) = (xs.set k s).map fun s : Nat => AV.int s := by rw [List.map_set]
theorem ob_u64 {oe k : Nat} {xs : List Nat} {v : Int} (I : OB C b oe xs data σ) (hd : data.length ≤ 600000) (h1 : 0 ≤ v) (h2 : v ≤ 18446744073709551615) (hk : k < xs.length) (hxs : xs.length < 100) (h0 : xs[k]? = some 0) :
    RF f_U64 [.obj b, .int k, .int v, .int 0] σ fun v' σ' => v' = .none ∧ ∃ s p, OB C b oe (xs.set k s) (p ++ data) σ' ∧ p.length ≤ 16 ∧ s ≤ (p ++ data).length ∧ (v = 0 → s = 0) ∧ (v ≠ 0 → s ≠ 0 ∧ At (p ++ data) s (leBytes 8 v)) := by
  obtain ⟨S, l, I, hl, hn, hoe, hvt, hfin, hma⟩ := I
  refine RF.mono (u64_spec I (by lia) h1 h2 hn hl (by simpa using hk) (by simpa using hxs)) ?_
  rintro _ s ⟨rfl, q1, q2⟩
  refine ⟨rfl, ?_⟩
  by_cases hv : v = 0
  · refine ⟨0, [], ?_, by simp, by simp, fun _ => rfl, fun q => absurd hv q⟩
    have : xs.set k 0 = xs := by
      apply List.ext_getElem?
      intro i
      by_cases hi : k = i
      · subst hi; rw [List.getElem?_set_self hk, h0]
      · rw [List.getElem?_set_ne hi]
    rw [this]
    exact ⟨S, l, q2 hv, hl, hn, hoe, hvt, hfin, hma⟩
  · have hp := padN_lt (n := data.length + 0) (size := 8) (by decide)
    refine ⟨(leBytes 8 v ++ al 8 0 data).length, leBytes 8 v ++ List.replicate (padN (data.length + 0) 8) 0, ?_, by rw [List.length_append, leBytes_length, List.length_replicate]; lia, by rw [List.append_assoc]; exact Nat.le_refl _, fun q => absurd q hv, fun _ => ⟨by rw [List.length_append, leBytes_length]; lia, ?_⟩⟩
    · rw [List.append_assoc]
      exact ⟨_, l, q1 hv, congrArg (fun z => some (l, z)) set_map, hn, hoe, hvt, hfin, hma.max8⟩
    · rw [List.append_assoc]
      exact At.of (List.length_append).symm
theorem ob_i32 {oe k : Nat} {xs : List Nat} {v dd : Int} (I : OB C b oe xs data σ) (hd : data.length ≤ 600000) (h1 : -2147483648 ≤ v) (h2 : v ≤ 2147483647) (h3 : -2147483648 ≤ dd) (h4 : dd ≤ 2147483647) (hk : k < xs.length) (hxs : xs.length < 100) (h0 : xs[k]? = some 0) :
    RF f_I32 [.obj b, .int k, .int v, .int dd] σ fun v' σ' => v' = .none ∧ ∃ s p, OB C b oe (xs.set k s) (p ++ data) σ' ∧ p.length ≤ 16 ∧ s ≤ (p ++ data).length ∧ (v = dd → s = 0) ∧ (v ≠ dd → s ≠ 0 ∧ At (p ++ data) s (leBytes 4 v)) := by
  obtain ⟨S, l, I, hl, hn, hoe, hvt, hfin, hma⟩ := I
  refine RF.mono (i32_spec I (by lia) h1 h2 h3 h4 hn hl (by simpa using hk) (by simpa using hxs)) ?_
  rintro _ s ⟨rfl, q1, q2⟩
  refine ⟨rfl, ?_⟩
  by_cases hv : v = dd
  · refine ⟨0, [], ?_, by simp, by simp, fun _ => rfl, fun q => absurd hv q⟩
    have : xs.set k 0 = xs := by
      apply List.ext_getElem?
      intro i
      by_cases hi : k = i
      · subst hi; rw [List.getElem?_set_self hk, h0]
      · rw [List.getElem?_set_ne hi]
    rw [this]
    exact ⟨S, l, q2 hv, hl, hn, hoe, hvt, hfin, hma⟩
  · have hp := padN_lt (n := data.length + 0) (size := 4) (by decide)
    refine ⟨(leBytes 4 v ++ al 4 0 data).length, leBytes 4 v ++ List.replicate (padN (data.length + 0) 4) 0, ?_, by rw [List.length_append, leBytes_length, List.length_replicate]; lia, by rw [List.append_assoc]; exact Nat.le_refl _, fun q => absurd q hv, fun _ => ⟨by rw [List.length_append, leBytes_length]; lia, ?_⟩⟩
    · rw [List.append_assoc]
      exact ⟨_, l, q1 hv, congrArg (fun z => some (l, z)) set_map, hn, hoe, hvt, hfin, hma.max4⟩
    · rw [List.append_assoc]
      exact At.of (List.length_append).symm
theorem ob_u {oe k : Nat} {xs : List Nat} {v : Nat} (I : OB C b oe xs data σ) (hd : data.length ≤ 600000) (hv0 : v ≤ data.length) (hk : k < xs.length) (hxs : xs.length < 100) (h0 : xs[k]? = some 0) :
    RF f_Builder_PrependUOffsetTRelativeSlot [.obj b, .int k, .int v, .int 0] σ fun v' σ' => v' = .none ∧ ∃ s p, OB C b oe (xs.set k s) (p ++ data) σ' ∧ p.length ≤ 16 ∧ s ≤ (p ++ data).length ∧ (v = 0 → s = 0) ∧ (v ≠ 0 → s ≠ 0 ∧ v ≤ s ∧ At (p ++ data) s (leBytes 4 ((s : Int) - v))) := by
  obtain ⟨S, l, I, hl, hn, hoe, hvt, hfin, hma⟩ := I
  refine RF.mono (prependUSlot_spec I (by lia) hv0 hn hl (by simpa using hk) (by simpa using hxs)) ?_
  rintro _ s ⟨rfl, q1, q2⟩
  refine ⟨rfl, ?_⟩
  by_cases hv : v = 0
  · refine ⟨0, [], ?_, by simp, by simp, fun _ => rfl, fun q => absurd hv q⟩
    have : xs.set k 0 = xs := by
      apply List.ext_getElem?
      intro i
      by_cases hi : k = i
      · subst hi; rw [List.getElem?_set_self hk, h0]
      · rw [List.getElem?_set_ne hi]
    rw [this]
    exact ⟨S, l, q2 hv, hl, hn, hoe, hvt, hfin, hma⟩
  · have hp := padN_lt (n := data.length + 0) (size := 4) (by decide)
    have hal := al_length 4 0 data
    have hlen : (leBytes 4 (((al 4 0 data).length : Int) - v + 4) ++ al 4 0 data).length = 4 + (al 4 0 data).length := by rw [List.length_append, leBytes_length]
    have q1 := q1 hv
    refine ⟨4 + (al 4 0 data).length, leBytes 4 (((al 4 0 data).length : Int) - v + 4) ++ List.replicate (padN (data.length + 0) 4) 0, ?_, by rw [List.length_append, leBytes_length, List.length_replicate]; lia, by rw [List.append_assoc]; exact Nat.le_of_eq hlen.symm, fun q => absurd q hv, fun _ => ⟨by lia, by lia, ?_⟩⟩
    · rw [List.append_assoc]
      refine ⟨_, l, q1, ?_, hn, hoe, hvt, hfin, hma.max4⟩
      show some (l, (xs.map fun s : Nat => AV.int s).set k (.int ((leBytes 4 (((al 4 0 data).length : Int) - v + 4) ++ al 4 0 data).length : Nat))) = _
      rw [hlen, set_map]
    · rw [List.append_assoc]
      have e : ((4 + (al 4 0 data).length : Nat) : Int) - v = ((al 4 0 data).length : Int) - v + 4 := by lia
      rw [e]
      exact At.of (by rw [leBytes_length]; rfl)
/-- a builder between vectors -/
noncomputable def VB (C : Nat → Option AO) (b : Nat) (data : List UInt8) (σ : AH) : Prop := ∃ S, BI C b S 0 data σ ∧ S.nested = false ∧ S.vt = .edict ∧ S.fin = false ∧ maOK S.ma
theorem vb_bytes {x : List UInt8} (I : VB C b data σ) (hx : x.length ≤ 100000) (hd : data.length ≤ 100000) :
    RF f_Builder_CreateByteVector [.obj b, .bytes x] σ fun v s => ∃ w p, v = .int (w : Nat) ∧ VB C b (p ++ data) s ∧ p.length ≤ x.length + 7 ∧ w ≤ (p ++ data).length ∧ w ≠ 0 ∧ At (p ++ data) w (leBytes 4 x.length ++ x) := by
  obtain ⟨S, I, hn, hvt, hfin, hma⟩ := I
  refine RF.mono (createBytes_spec I hn hx hd) ?_
  rintro _ s ⟨rfl, q⟩
  have hp := padN_lt (n := data.length + x.length) (size := 4) (by decide)
  have e : leBytes 4 (x.length : Int) ++ (x ++ al 4 x.length data) = (leBytes 4 (x.length : Int) ++ (x ++ List.replicate (padN (data.length + x.length) 4) 0)) ++ data := by simp [al, List.append_assoc]
  refine ⟨4 + (x ++ al 4 x.length data).length, leBytes 4 (x.length : Int) ++ (x ++ List.replicate (padN (data.length + x.length) 4) 0), rfl, ?_, ?_, ?_, by lia, ?_⟩
  · rw [← e]
    exact ⟨_, q, rfl, hvt, hfin, hma.max4⟩
  · simp [leBytes_length]; lia
  · rw [← e]; simp only [List.length_append, leBytes_length]; lia
  · rw [← e, ← List.append_assoc]
    exact At.of (by simp [leBytes_length]; lia)
theorem vb_string {x : Str} (I : VB C b data σ) (hs : (x.cps.toList.all fun c => !Str.isSurrogate c) = true) (hx : (encU x).length ≤ 100000) (hd : data.length ≤ 100000) :
    RF f_Builder_CreateString [.obj b, .str x] σ fun v s => ∃ w p, v = .int (w : Nat) ∧ VB C b (p ++ data) s ∧ p.length ≤ (encU x).length + 8 ∧ w ≤ (p ++ data).length ∧ w ≠ 0 ∧ At (p ++ data) w (leBytes 4 (encU x).length ++ encU x) := by
  obtain ⟨S, I, hn, hvt, hfin, hma⟩ := I
  refine RF.mono (createString_spec I hn hs hx hd) ?_
  rintro _ s ⟨rfl, q⟩
  have hp := padN_lt (n := data.length + ((encU x).length + 1)) (size := 4) (by decide)
  have e : leBytes 4 ((encU x).length : Int) ++ (encU x ++ ([0] ++ al 4 ((encU x).length + 1) data)) = (leBytes 4 ((encU x).length : Int) ++ (encU x ++ ([0] ++ List.replicate (padN (data.length + ((encU x).length + 1)) 4) 0))) ++ data := by simp [al, List.append_assoc]
  refine ⟨4 + (encU x ++ ([0] ++ al 4 ((encU x).length + 1) data)).length, leBytes 4 ((encU x).length : Int) ++ (encU x ++ ([0] ++ List.replicate (padN (data.length + ((encU x).length + 1)) 4) 0)), rfl, ?_, ?_, ?_, by lia, ?_⟩
  · rw [← e]
    exact ⟨_, q, rfl, hvt, hfin, hma.max4⟩
  · simp [leBytes_length]; lia
  · rw [← e]; simp only [List.length_append, leBytes_length]; lia
  · rw [← e, ← List.append_assoc]
    exact At.of (by simp [leBytes_length]; lia)
end
end Mine
set_option maxRecDepth 100000
namespace Mine
noncomputable def tv : Option Str → AV
  | none => .none
  | some t => .str t
noncomputable def iv : Option (List UInt8) → AV
  | none => .none
  | some x => .bytes x
noncomputable def tlen : Option Str → Nat
  | none => 0
  | some t => (encU t).length
noncomputable def ilen : Option (List UInt8) → Nat
  | none => 0
  | some x => x.length
noncomputable def tOK : Option Str → Prop
  | none => True
  | some t => (t.cps.toList.all fun c => !Str.isSurrogate c) = true ∧ (encU t).length ≤ 1000
/-- a vector stands, or none is asked -/
noncomputable def VecAt (x : Option (List UInt8)) (n : Nat) (D : List UInt8) : Prop := match x with
  | none => n = 0
  | some x => n ≠ 0 ∧ n ≤ D.length ∧ At D n (leBytes 4 x.length ++ x)
theorem VecAt.pre {x : Option (List UInt8)} {n : Nat} {D : List UInt8} (h : VecAt x n D) (P : List UInt8) : VecAt x n (P ++ D) := by
  cases x with
  | none => exact h
  | some x =>
    refine ⟨h.1, ?_, h.2.2.pre P⟩
    have := h.2.1
    simp; lia
noncomputable def encO (t : Option Str) : Option (List UInt8) := t.map encU
noncomputable def idOf (finish : Nat) : List UInt8 := if finish = 1 then [76, 65, 87, 49] else if finish = 3 then [108, 97, 119, 50] else []
noncomputable def sz (finish : Nat) : Nat := if 2 ≤ finish then 4 else 0
/-- a slot that leads to a vector -/
noncomputable def LeadsTo (x : Option (List UInt8)) (s : Nat) (D : List UInt8) : Prop := match x with
  | none => s = 0
  | some x => s ≠ 0 ∧ ∃ w, w ≤ s ∧ At D s (leBytes 4 ((s : Int) - w)) ∧ At D w (leBytes 4 x.length ++ x)
theorem LeadsTo.pre {x : Option (List UInt8)} {n : Nat} {D : List UInt8} (h : LeadsTo x n D) (P : List UInt8) : LeadsTo x n (P ++ D) := by
  cases x with
  | none => exact h
  | some x =>
    obtain ⟨a, w, b, c, d⟩ := h
    exact ⟨a, w, b, c.pre P, d.pre P⟩
/-- what a made buffer is -/
structure LayT (D : List UInt8) (number : Int) (text : Option Str) (great : Int) (inner : Option (List UInt8)) (R oe s0 s1 s2 s3 : Nat) : Prop where
  tab : At D (R + (vtab R oe [s0, s1, s2, s3]).length) (vtab R oe [s0, s1, s2, s3])
  root : At D R (leBytes 4 (vtab R oe [s0, s1, s2, s3]).length)
  le0 : s0 + 4 ≤ R
  le1 : s1 + 4 ≤ R
  le2 : s2 + 4 ≤ R
  le3 : s3 + 4 ≤ R
  num : (number = 5 → s0 = 0) ∧ (number ≠ 5 → s0 ≠ 0 ∧ At D s0 (leBytes 4 number))
  grt : (great = 0 → s3 = 0) ∧ (great ≠ 0 → s3 ≠ 0 ∧ At D s3 (leBytes 8 great))
  txt : LeadsTo (encO text) s1 D
  inn : LeadsTo inner s2 D
theorem LayT.pre {D : List UInt8} {number great : Int} {text : Option Str} {inner : Option (List UInt8)} {R oe s0 s1 s2 s3 : Nat} (h : LayT D number text great inner R oe s0 s1 s2 s3) (P : List UInt8) : LayT (P ++ D) number text great inner R oe s0 s1 s2 s3 :=
  ⟨h.tab.pre P, h.root.pre P, h.le0, h.le1, h.le2, h.le3, ⟨h.num.1, fun q => ⟨(h.num.2 q).1, (h.num.2 q).2.pre P⟩⟩, ⟨h.grt.1, fun q => ⟨(h.grt.2 q).1, (h.grt.2 q).2.pre P⟩⟩, h.txt.pre P, h.inn.pre P⟩
structure LayF (D : List UInt8) (finish R : Nat) : Prop where
  fits : sz finish + R ≤ D.length
  root : At D (D.length - sz finish) (leBytes 4 ((D.length : Int) - sz finish - R))
  size : 2 ≤ finish → At D D.length (leBytes 4 ((D.length : Int) - 4))
  ident : finish % 2 = 1 → At D (D.length - sz finish - 4) (idOf finish)
noncomputable def Lay (D : List UInt8) (number : Int) (text : Option Str) (great : Int) (inner : Option (List UInt8)) (finish : Nat) : Prop := ∃ R oe s0 s1 s2 s3, LayT D number text great inner R oe s0 s1 s2 s3 ∧ LayF D finish R ∧ oe ≤ R
theorem finD_facts {M root : Nat} {fid data : List UInt8} {sp : Bool} (hM : M = 4 ∨ M = 8) (hf : fid.length ≤ 4) (hr : root ≤ data.length) :
    (∃ P, finD M root fid sp data = P ++ data ∧ P.length ≤ 19) ∧ At (finD M root fid sp data) ((finD M root fid sp data).length - (if sp then 4 else 0)) (leBytes 4 (((finD M root fid sp data).length : Int) - (if sp then 4 else 0 : Nat) - root)) ∧
      (sp = true → At (finD M root fid sp data) (finD M root fid sp data).length (leBytes 4 (((finD M root fid sp data).length : Int) - 4))) ∧ At (finD M root fid sp data) ((finD M root fid sp data).length - (if sp then 4 else 0) - 4) fid ∧ (if sp then 4 else 0) + data.length ≤ (finD M root fid sp data).length := by
  unfold finD
  have hal := al_length M (4 + fid.length + if sp then 4 else 0) data
  have hp := padN_lt (n := data.length + (4 + fid.length + if sp then 4 else 0)) (size := M) (by lia)
  have hp8 : padN (data.length + (4 + fid.length + if sp then 4 else 0)) M < 8 := by lia
  have hpre : ∃ Z, fid ++ al M (4 + fid.length + if sp then 4 else 0) data = Z ++ data ∧ Z.length ≤ 11 := ⟨fid ++ List.replicate (padN (data.length + (4 + fid.length + if sp then 4 else 0)) M) 0, by simp [al, List.append_assoc], by simp; lia⟩
  have hid : At (fid ++ al M (4 + fid.length + if sp then 4 else 0) data) (fid ++ al M (4 + fid.length + if sp then 4 else 0) data).length fid := At.of (List.length_append).symm
  have hr3 : root ≤ (fid ++ al M (4 + fid.length + if sp then 4 else 0) data).length := by rw [List.length_append, hal]; lia
  generalize fid ++ al M (4 + fid.length + if sp then 4 else 0) data = d3 at hpre hid hr3 ⊢
  obtain ⟨Z, hZ, hZl⟩ := hpre
  have h4 : (rootD root d3).length = d3.length + 4 := by unfold rootD; rw [List.length_append, leBytes_length]; lia
  have ha4 : At (rootD root d3) (rootD root d3).length (leBytes 4 ((d3.length : Int) - root + 4)) := by unfold rootD; exact At.of (List.length_append).symm
  have hi4 : At (rootD root d3) d3.length fid := by unfold rootD; exact hid.pre _
  have he4 : ∃ P, rootD root d3 = P ++ data ∧ P.length ≤ 15 := ⟨leBytes 4 ((d3.length : Int) - root + 4) ++ Z, by unfold rootD; rw [hZ, List.append_assoc], by rw [List.length_append, leBytes_length]; lia⟩
  generalize rootD root d3 = d4 at h4 ha4 hi4 he4 ⊢
  obtain ⟨P, hP, hPl⟩ := he4
  cases sp with
  | false =>
    show (∃ P, d4 = P ++ data ∧ P.length ≤ 19) ∧ At d4 (d4.length - 0) (leBytes 4 ((d4.length : Int) - ((0 : Nat) : Int) - root)) ∧ _ ∧ At d4 (d4.length - 0 - 4) fid ∧ 0 + data.length ≤ d4.length
    refine ⟨⟨P, hP, by lia⟩, ?_, fun q => (nomatch q), ?_, by rw [hP, List.length_append]; lia⟩
    · rw [show (d4.length : Int) - ((0 : Nat) : Int) - root = (d3.length : Int) - root + 4 by lia]
      exact ha4
    · rw [show d4.length - 0 - 4 = d3.length by lia]
      exact hi4
  | true =>
    show (∃ P, (leBytes 4 d4.length ++ d4) = P ++ data ∧ P.length ≤ 19) ∧ At (leBytes 4 d4.length ++ d4) ((leBytes 4 d4.length ++ d4).length - 4) (leBytes 4 (((leBytes 4 d4.length ++ d4).length : Int) - ((4 : Nat) : Int) - root)) ∧ (_ → At (leBytes 4 d4.length ++ d4) (leBytes 4 d4.length ++ d4).length (leBytes 4 (((leBytes 4 d4.length ++ d4).length : Int) - 4))) ∧ At (leBytes 4 d4.length ++ d4) ((leBytes 4 d4.length ++ d4).length - 4 - 4) fid ∧ 4 + data.length ≤ (leBytes 4 d4.length ++ d4).length
    have hl : (leBytes 4 (d4.length : Int) ++ d4).length = 4 + d4.length := by rw [List.length_append, leBytes_length]
    refine ⟨⟨leBytes 4 d4.length ++ P, by rw [hP, List.append_assoc], by rw [List.length_append, leBytes_length]; lia⟩, ?_, fun _ => ?_, ?_, by rw [hl, hP, List.length_append]; lia⟩
    · rw [hl, show ((4 + d4.length : Nat) : Int) - ((4 : Nat) : Int) - root = (d3.length : Int) - root + 4 by lia, show 4 + d4.length - 4 = d4.length by lia]
      exact ha4.pre _
    · rw [hl, show ((4 + d4.length : Nat) : Int) - 4 = (d4.length : Int) by lia]
      exact At.of (by rw [leBytes_length])
    · rw [hl, show 4 + d4.length - 4 - 4 = d3.length by lia]
      exact hi4.pre _
section
variable {C : Nat → Option AO} {b : Nat} {S : Bd} {σ : AH} {r room : Nat} {data : List UInt8} {vars : Vars}
theorem VB.app (I : VB C b data σ) (τ : AH) : VB C b data (σ ++ τ) := let ⟨S, I, q⟩ := I; ⟨S, I.app τ, q⟩
noncomputable abbrev mv (number : Int) (text : Option Str) (great : Int) (inner : Option (List UInt8)) (first : Bool) (finish size b : Nat) (row words : Nat) : Vars :=
  [some (.int number), some (tv text), some (.int great), some (iv inner), some (.bool first), some (.int finish), some (.int size), some (.obj b), none, none, some (.int row), some (.int words)]
theorem stA {number great : Int} {text : Option Str} {inner : Option (List UInt8)} {first : Bool} {finish size words : Nat} {Q : Fl → Vars → AH → Prop} (I : VB C b data σ) (hx : ilen inner ≤ 50000) (hd : data.length ≤ 50000)
    (q : ∀ row p s, VB C b (p ++ data) s → (first = true → VecAt inner row (p ++ data)) → (first = false → row = 0) → p.length ≤ (if first then ilen inner + 7 else 0) → Q .next (mv number text great inner first finish size b row words) s) :
    RX (xIf (bAnd (bVal (eVar 4)) (bCmp mIsNot (eVar 3) (eConst .none))) (xSeq (xAsg 10 (eMeth (eVar 7) (selI .builder) ([(eVar 3)] ++ []) f_Builder_CreateByteVector)) xNil) xNil) (mv number text great inner first finish size b 0 words) σ Q := by
  obtain ⟨S, I', _⟩ := id I
  obtain ⟨j, pre, hr, hc, J⟩ := I'
  walk_at "pure"
  cases first with
  | false =>
    walk_at "pure"
    exact q 0 [] σ I (fun e => (nomatch e)) (fun _ => rfl) (by simp)
  | true =>
    cases inner with
    | none =>
      walk_at "pure"
      exact q 0 [] σ I (fun _ => rfl) (fun _ => rfl) (by simp)
    | some x =>
      walk_at "pure"
      refine RF.mono (vb_bytes I (Nat.le_trans (show x.length ≤ 50000 from hx) (by decide)) (by lia)) ?_
      rintro _ s ⟨w, p, rfl, I1, h1, h2, h3, h4⟩
      walk_at "pure"
      exact q w p s I1 (fun _ => ⟨h3, h2, h4⟩) (fun e => (nomatch e)) h1
theorem stB {number great : Int} {text : Option Str} {inner : Option (List UInt8)} {first : Bool} {finish size row : Nat} {Q : Fl → Vars → AH → Prop} (I : VB C b data σ) (hx : tOK text) (hd : data.length ≤ 100000)
    (q : ∀ words p s, VB C b (p ++ data) s → VecAt (encO text) words (p ++ data) → p.length ≤ tlen text + 8 → Q .next (mv number text great inner first finish size b row words) s) :
    RX (xIf (bCmp mIsNot (eVar 1) (eConst .none)) (xSeq (xAsg 11 (eMeth (eVar 7) (selI .builder) ([(eVar 1)] ++ []) f_Builder_CreateString)) xNil) xNil) (mv number text great inner first finish size b row 0) σ Q := by
  obtain ⟨S, I', _⟩ := id I
  obtain ⟨j, pre, hr, hc, J⟩ := I'
  cases text with
  | none =>
    walk_at "pure"
    exact q 0 [] σ I rfl (by simp)
  | some t =>
    walk_at "pure"
    refine RF.mono (vb_string I hx.1 (by have := hx.2; lia) (by lia)) ?_
    rintro _ s ⟨w, p, rfl, I1, h1, h2, h3, h4⟩
    walk_at "pure"
    exact q w p s I1 ⟨h3, h2, h4⟩ h1
theorem stC {number great : Int} {text : Option Str} {inner : Option (List UInt8)} {first : Bool} {finish size words row0 : Nat} {Q : Fl → Vars → AH → Prop} (I : VB C b data σ) (hx : ilen inner ≤ 50000) (hd : data.length ≤ 100000) (h1 : first = true → VecAt inner row0 data) (h2 : first = false → row0 = 0)
    (q : ∀ row p s, VB C b (p ++ data) s → VecAt inner row (p ++ data) → p.length ≤ (if first then 0 else ilen inner + 7) → Q .next (mv number text great inner first finish size b row words) s) :
    RX (xIf (bAnd (bNot (bVal (eVar 4))) (bCmp mIsNot (eVar 3) (eConst .none))) (xSeq (xAsg 10 (eMeth (eVar 7) (selI .builder) ([(eVar 3)] ++ []) f_Builder_CreateByteVector)) xNil) xNil) (mv number text great inner first finish size b row0 words) σ Q := by
  obtain ⟨S, I', _⟩ := id I
  obtain ⟨j, pre, hr, hc, J⟩ := I'
  cases first with
  | true =>
    walk_at "pure"
    exact q row0 [] σ I (h1 rfl) (by simp)
  | false =>
    obtain rfl := h2 rfl
    cases inner with
    | none =>
      walk_at "pure"
      exact q 0 [] σ I rfl (by simp)
    | some x =>
      walk_at "pure"
      refine RF.mono (vb_bytes I (Nat.le_trans (show x.length ≤ 50000 from hx) (by decide)) (by lia)) ?_
      rintro _ s ⟨w, p, rfl, I1, h1, h2, h3, h4⟩
      walk_at "pure"
      exact q w p s I1 ⟨h3, h2, h4⟩ h1
end
end Mine
set_option maxRecDepth 100000
namespace Mine
theorem vec_lead {x : Option (List UInt8)} {row s : Nat} {D p : List UInt8} (h : VecAt x row D) (h0 : row = 0 → s = 0) (h1 : row ≠ 0 → s ≠ 0 ∧ row ≤ s ∧ At (p ++ D) s (leBytes 4 ((s : Int) - row))) : LeadsTo x s (p ++ D) := by
  cases x with
  | none => exact h0 h
  | some x =>
    obtain ⟨a, b, c⟩ := h
    obtain ⟨d, e, f⟩ := h1 a
    exact ⟨d, row, e, f, c.pre p⟩
theorem VecAt.le {x : Option (List UInt8)} {n : Nat} {D : List UInt8} (h : VecAt x n D) : n ≤ D.length := by
  cases x with
  | none => rw [show n = 0 from h]; exact Nat.zero_le _
  | some x => exact h.2.1
theorem marks {finish : Nat} (h : finish ≤ 3) : ∃ fa fid, ([AV.none, .bytes [76, 65, 87, 49], .none, .bytes [108, 97, 119, 50]])[finish]? = some fa ∧ ((fa = .none ∧ fid = []) ∨ ∃ x0 x1 x2 x3, fa = .bytes [x0, x1, x2, x3] ∧ fid = [x0, x1, x2, x3]) ∧ fid = idOf finish ∧ fid.length ≤ 4 := by
  have : finish = 0 ∨ finish = 1 ∨ finish = 2 ∨ finish = 3 := by lia
  rcases this with rfl | rfl | rfl | rfl
  · exact ⟨.none, [], rfl, .inl ⟨rfl, rfl⟩, rfl, by decide⟩
  · exact ⟨_, [76, 65, 87, 49], rfl, .inr ⟨_, _, _, _, rfl, rfl⟩, rfl, by decide⟩
  · exact ⟨.none, [], rfl, .inl ⟨rfl, rfl⟩, rfl, by decide⟩
  · exact ⟨_, [108, 97, 119, 50], rfl, .inr ⟨_, _, _, _, rfl, rfl⟩, rfl, by decide⟩
section
variable {C : Nat → Option AO} {b : Nat} {S : Bd} {σ : AH} {r room : Nat} {data : List UInt8} {vars : Vars}
theorem OB.of {oe : Nat} {xs : List Nat} (I : OB C b oe xs data σ) : ∃ (S : Bd) (j : Nat) (pre : List UInt8), Inv C b (S.at j pre data) σ := by
  obtain ⟨S, l, ⟨j, pre, _, _, J⟩, _⟩ := I
  exact ⟨S, j, pre, J⟩
theorem made_tail {fa : AV} {fid data : List UInt8} {M R finish : Nat} {w : Vars} {Q : AV → AH → Prop} (I : BI C b S r data σ) (hf : (fa = .none ∧ fid = []) ∨ ∃ x0 x1 x2 x3, fa = .bytes [x0, x1, x2, x3] ∧ fid = [x0, x1, x2, x3]) (hma : S.ma = (M : Int)) (hM : M = 4 ∨ M = 8) (hd : data.length ≤ 55000) (hR : R ≤ data.length) (hfl : fid.length ≤ 4)
    (v5 : (w[5]?).join = some (.int finish)) (v7 : (w[7]?).join = some (.obj b)) (v8 : (w[8]?).join = some (.int R)) (v9 : (w[9]?).join = some fa)
    (q : ∀ s, (∀ i ao, C i = some ao → s[i]? = some ao) → Q (.bytes (finD M R fid (decide (2 ≤ finish)) data)) s) :
    RX (xSeq (xIf (bCmp mLt (eVar 5) (eConst (.int 2))) (xSeq (xExpr (eMeth (eVar 7) (selI .builder) ([(eVar 8)] ++ [(eVar 9)]) f_Builder_Finish)) xNil) (xSeq (xExpr (eMeth (eVar 7) (selI .builder) ([(eVar 8)] ++ [(eVar 9)]) f_Builder_FinishSizePrefixed)) xNil)) (xSeq (xRet (eCall ([(eMeth (eVar 7) (selI .builder) ([] ++ []) f_Builder_Output)] ++ []) fBytes)) xNil)) w σ (FK Q) := by
  obtain ⟨j, pre, hr0, hc, J⟩ := id I
  have fin : ∀ {sp : Bool} {s : AH}, sp = decide (2 ≤ finish) → BI C b { S with fin := true } 0 (finD M R fid sp data) s → RX (xSeq (xRet (eCall ([(eMeth (eVar 7) (selI .builder) ([] ++ []) f_Builder_Output)] ++ []) fBytes)) xNil) w s (FK Q) := by
    intro sp s hs I1
    obtain ⟨⟨P, hP, hPl⟩, _⟩ := finD_facts (M := M) (root := R) (fid := fid) (data := data) (sp := sp) hM hfl hR
    have hl : (finD M R fid sp data).length ≤ 60000 := by rw [hP, List.length_append]; lia
    obtain ⟨j1, pre1, hr1, hc1, J1⟩ := id I1
    refine RX.seq (RX.ret (RE.call (RL.app (RL.cons (RE.meth (RE.var v7 ⟨true, J1.sel, ?_⟩))))))
    walk_at "pure"
    refine RF.mono (output_spec I1 rfl) ?_
    rintro _ s2 ⟨k, rfl, rfl, rfl⟩
    walk_at "pure"
    refine RF.some (a := .bytes (finD M R fid sp data)) (s := s ++ [.ba (finD M R fid sp data)]) ?_ ?_
    · show fBytes [.obj s.length] (s ++ [.ba (finD M R fid sp data)]) = _
      unfold fBytes lends
      dsimp only
      rw [get_end]
      exact if_pos (by lia)
    walk_at "pure"
    rw [hs]
    exact q _ fun i ao e => get_app (J1.keep i ao e)
  refine RX.seq (RX.ite (RB.cmp (RE.var v5 (RE.const (RC.s rfl ?_)))))
  by_cases h2 : (finish : Int) < 2
  · refine IK.dt h2 (RX.seq (RX.expr (RE.meth (RE.var v7 ⟨true, J.sel, RL.app (RL.cons (RE.var v8 (RL.nil (RL.cons (RE.var v9 (RL.nil ?_))))))⟩))))
    refine RF.mono (finish_spec I hf hma hM (by lia) hR) ?_
    rintro _ s ⟨⟨h, rfl⟩, I1⟩
    exact ⟨rfl, SK.next (RX.nil (SK.next (fin (by rw [decide_eq_false]; lia) I1)))⟩
  · refine IK.df h2 (RX.seq (RX.expr (RE.meth (RE.var v7 ⟨true, J.sel, RL.app (RL.cons (RE.var v8 (RL.nil (RL.cons (RE.var v9 (RL.nil ?_))))))⟩))))
    refine RF.mono (finishSized_spec I hf hma hM (by lia) hR) ?_
    rintro _ s ⟨⟨h, rfl⟩, I1⟩
    exact ⟨rfl, SK.next (RX.nil (SK.next (fin (by rw [decide_eq_true]; lia) I1)))⟩
theorem made_spec {number great : Int} {text : Option Str} {inner : Option (List UInt8)} {first : Bool} {finish size : Nat} (hn1 : -2147483648 ≤ number) (hn2 : number ≤ 2147483647) (hg1 : 0 ≤ great) (hg2 : great ≤ 18446744073709551615) (ht : tOK text) (hi : ilen inner ≤ 40000) (hf : finish ≤ 3) (hs : size ≤ 1000) :
    RF f_law_made [.int number, tv text, .int great, iv inner, .bool first, .int finish, .int size] σ fun v s => ∃ D, v = .bytes D ∧ (∀ (i : Nat) (ao : AO), σ[i]? = some ao → s[i]? = some ao) ∧ Lay D number text great inner finish ∧ D.length ≤ ilen inner + tlen text + 150 := by
  refine RF.def rfl rfl ?_
  unfold x_law_made
  walk_at "pure"
  refine RF.mono (new_spec hs) ?_
  rintro _ s0 ⟨b, d, t, rfl, hb, I0⟩
  have V0 : VB (fun i => σ[i]?) b [] s0 := ⟨_, I0.le (Nat.zero_le _), rfl, rfl, rfl, .inl rfl⟩
  clear I0
  refine ⟨of_decide_eq_true rfl, SK.next (RX.seq (RX.unp (RE.tup (RL.cons (RE.const (RL.cons (RE.const (RL.nil ?_))))))))⟩
  refine ⟨[.int 0, .int 0], mv number text great inner first finish size b 0 0, by unfold itemsOf; dsimp only; rw [get_end], rfl, rfl, ?_⟩
  have htl : tlen text ≤ 1000 := by
    cases text with
    | none => exact Nat.zero_le _
    | some t => exact ht.2
  refine SK.next (RX.seq (stA (V0.app _) (by lia) (by simp) fun row0 p0 s1 V1 r1 r2 hp0 => SK.next (RX.seq (stB V1 ht (by split at hp0 <;> simp <;> lia) fun words p1 s2 V2 wv hp1 => SK.next (RX.seq (stC (row0 := row0) V2 (by lia) (by split at hp0 <;> simp <;> lia) (fun e => (r1 e).pre _) r2 fun row p2 s3 V3 rv hp2 => ?_))))))
  have hd1 : (p2 ++ (p1 ++ (p0 ++ []))).length ≤ ilen inner + tlen text + 15 := by
    have : p0.length + p2.length ≤ ilen inner + 7 := by
      cases first with
      | true =>
        have a : p0.length ≤ ilen inner + 7 := hp0
        have b : p2.length ≤ 0 := hp2
        lia
      | false =>
        have a : p0.length ≤ 0 := hp0
        have b : p2.length ≤ ilen inner + 7 := hp2
        lia
    simp
    lia
  have wv := wv.pre p2
  generalize p2 ++ (p1 ++ (p0 ++ [])) = data1 at hd1 V3 rv wv
  clear V0 V1 V2 r1 r2 hp0 hp1 hp2
  obtain ⟨S3, B3, hn3, hvt3, hfin3, hma3⟩ := V3
  obtain ⟨j3, pre3, hr3, hc3, J3⟩ := id B3
  walk_at "pure"
  refine RF.mono (startObject_spec B3 hn3) ?_
  rintro _ s4 ⟨rfl, l, B4⟩
  have O4 : OB (fun i => σ[i]?) b data1.length [0, 0, 0, 0] data1 s4 := ⟨_, l, B4, rfl, rfl, rfl, hvt3, hfin3, hma3⟩
  clear B4
  obtain ⟨S4, j4, pre4, J4⟩ := O4.of
  walk_at "pure"
  refine RF.mono (ob_u64 (k := 3) O4 (by lia) hg1 hg2 (of_decide_eq_true rfl) (of_decide_eq_true rfl) rfl) ?_
  rintro _ s5 ⟨rfl, sl3, p3, O5, hp3, hs3, g0, g1⟩
  obtain ⟨S5, j5, pre5, J5⟩ := O5.of
  walk_at "pure"
  refine RF.mono (ob_u (k := 2) (v := row) O5 (by simp; lia) (Nat.le_trans rv.le (by simp)) (of_decide_eq_true rfl) (of_decide_eq_true rfl) rfl) ?_
  rintro _ s6 ⟨rfl, sl2, p4, O6, hp4, hs2, u0, u1⟩
  obtain ⟨S6, j6, pre6, J6⟩ := O6.of
  walk_at "pure"
  refine RF.mono (ob_u (k := 1) (v := words) O6 (by simp; lia) (Nat.le_trans wv.le (by simp; lia)) (of_decide_eq_true rfl) (of_decide_eq_true rfl) rfl) ?_
  rintro _ s7 ⟨rfl, sl1, p5, O7, hp5, hs1, w0, w1⟩
  obtain ⟨S7, j7, pre7, J7⟩ := O7.of
  walk_at "pure"
  refine RF.mono (ob_i32 (k := 0) O7 (by simp; lia) hn1 hn2 (by decide) (by decide) (of_decide_eq_true rfl) (of_decide_eq_true rfl) rfl) ?_
  rintro _ s8 ⟨rfl, sl0, p6, O8, hp6, hs0, n0, n1⟩
  obtain ⟨S8, j8, pre8, J8⟩ := O8.of
  have hset : ([0, 0, 0, 0].set 3 sl3 |>.set 2 sl2 |>.set 1 sl1 |>.set 0 sl0) = [sl0, sl1, sl2, sl3] := rfl
  rw [hset] at O8
  walk_at "pure"
  obtain ⟨S, l8, B8, hl8, hn8, hoe8, hvt8, hfin8, hma8⟩ := O8
  have hdl : (p6 ++ (p5 ++ (p4 ++ (p3 ++ data1)))).length ≤ ilen inner + tlen text + 79 := by simp; lia
  have hd1l : data1.length ≤ (p6 ++ (p5 ++ (p4 ++ (p3 ++ data1)))).length := by simp; lia
  have hle : ∀ s ∈ [sl0, sl1, sl2, sl3], s ≤ (p6 ++ (p5 ++ (p4 ++ (p3 ++ data1)))).length := by
    intro s hs
    simp at hs hs0 hs1 hs2 hs3 ⊢
    lia
  have wl : LeadsTo (encO text) sl1 (p6 ++ (p5 ++ (p4 ++ (p3 ++ data1)))) := (vec_lead ((wv.pre p3).pre p4) w0 w1).pre p6
  have rl : LeadsTo inner sl2 (p6 ++ (p5 ++ (p4 ++ (p3 ++ data1)))) := ((vec_lead (rv.pre p3) u0 u1).pre p5).pre p6
  have gl : (great = 0 → sl3 = 0) ∧ (great ≠ 0 → sl3 ≠ 0 ∧ At (p6 ++ (p5 ++ (p4 ++ (p3 ++ data1)))) sl3 (leBytes 8 great)) := ⟨g0, fun q => ⟨(g1 q).1, (((g1 q).2.pre p4).pre p5).pre p6⟩⟩
  have nl : (number = 5 → sl0 = 0) ∧ (number ≠ 5 → sl0 ≠ 0 ∧ At (p6 ++ (p5 ++ (p4 ++ (p3 ++ data1)))) sl0 (leBytes 4 number)) := ⟨n0, n1⟩
  generalize p6 ++ (p5 ++ (p4 ++ (p3 ++ data1))) = data at B8 hdl hd1l hle wl rl gl nl
  have hal := al_length 4 0 data
  have hpd := padN_lt (n := data.length + 0) (size := 4) (by decide)
  refine RF.mono (endObject_spec B8 hn8 hl8 rfl hle hoe8 hd1l (by lia) hvt8) ?_
  rintro _ s9 ⟨rfl, B9⟩
  have hm9 : ({ S with ma := maxI S.ma 4, vt := .junk, vl := none, nested := false } : Bd).ma = maxI S.ma 4 := rfl
  obtain ⟨fa, fid, hx, hfa, hfid, hfl⟩ := marks hf
  have hvl := vtab_length (4 + (al 4 0 data).length) data1.length [sl0, sl1, sl2, sl3]
  have htz := trimZ_length [sl0, sl1, sl2, sl3]
  have h4 : ([sl0, sl1, sl2, sl3] : List Nat).length = 4 := rfl
  have hT : LayT (vtab (4 + (al 4 0 data).length) data1.length [sl0, sl1, sl2, sl3] ++ (leBytes 4 (vtab (4 + (al 4 0 data).length) data1.length [sl0, sl1, sl2, sl3]).length ++ al 4 0 data)) number text great inner (4 + (al 4 0 data).length) data1.length sl0 sl1 sl2 sl3 := by
    have g : ∀ {n : Nat} {X : List UInt8}, At data n X → At (vtab (4 + (al 4 0 data).length) data1.length [sl0, sl1, sl2, sl3] ++ (leBytes 4 (vtab (4 + (al 4 0 data).length) data1.length [sl0, sl1, sl2, sl3]).length ++ al 4 0 data)) n X := fun h => (h.al.pre _).pre _
    have h0 := hle sl0 (by simp)
    have h1 := hle sl1 (by simp)
    have h2 := hle sl2 (by simp)
    have h3 := hle sl3 (by simp)
    refine ⟨At.of ?_, ?_, by lia, by lia, by lia, by lia, ⟨nl.1, fun q => ⟨(nl.2 q).1, g (nl.2 q).2⟩⟩, ⟨gl.1, fun q => ⟨(gl.2 q).1, g (gl.2 q).2⟩⟩, ?_, ?_⟩
    · rw [List.length_append, leBytes_length]; lia
    · exact (At.of (by rw [leBytes_length])).pre _
    · exact ((wl.pre _).pre _).pre _
    · exact ((rl.pre _).pre _).pre _
  have hDl : (vtab (4 + (al 4 0 data).length) data1.length [sl0, sl1, sl2, sl3] ++ (leBytes 4 (vtab (4 + (al 4 0 data).length) data1.length [sl0, sl1, sl2, sl3]).length ++ al 4 0 data)).length ≤ ilen inner + tlen text + 79 + 12 + 4 + 3 ∧ 4 + (al 4 0 data).length ≤ (vtab (4 + (al 4 0 data).length) data1.length [sl0, sl1, sl2, sl3] ++ (leBytes 4 (vtab (4 + (al 4 0 data).length) data1.length [sl0, sl1, sl2, sl3]).length ++ al 4 0 data)).length := by
    rw [List.length_append, List.length_append, leBytes_length]; lia
  have hoe : data1.length ≤ 4 + (al 4 0 data).length := by lia
  generalize vtab (4 + (al 4 0 data).length) data1.length [sl0, sl1, sl2, sl3] ++ (leBytes 4 (vtab (4 + (al 4 0 data).length) data1.length [sl0, sl1, sl2, sl3]).length ++ al 4 0 data) = dE at B9 hT hDl
  generalize 4 + (al 4 0 data).length = R at hT hDl hoe ⊢
  have B10 := B9.app [.list true [AV.none, .bytes [76, 65, 87, 49], .none, .bytes [108, 97, 119, 50]]]
  refine ⟨of_decide_eq_true rfl, SK.next (RX.seq (RX.asg (RE.bin (RE.list (RL.cons (RE.const (RL.cons (RE.const (RL.cons (RE.const (RL.cons (RE.const (RL.nil (RE.var rfl (RS.some (item_list get_end hx (by lia)) ⟨of_decide_eq_true rfl, SK.next ?_⟩)))))))))))))))⟩
  obtain ⟨M, hM, hMM⟩ : ∃ M : Nat, (M = 4 ∨ M = 8) ∧ maxI S.ma 4 = (M : Int) := by
    rcases hma8.four with h | h
    · exact ⟨4, .inl rfl, h⟩
    · exact ⟨8, .inr rfl, h⟩
  refine made_tail (M := M) (fid := fid) B10 hfa (hm9.trans hMM) hM (by lia) hDl.2 hfl rfl rfl rfl rfl fun s11 kp => ?_
  obtain ⟨⟨P, hP, hPl⟩, a1, a2, a3, a4⟩ := finD_facts (M := M) (root := R) (fid := fid) (data := dE) (sp := decide (2 ≤ finish)) hM hfl hDl.2
  have hDD : (finD M R fid (decide (2 ≤ finish)) dE).length = P.length + dE.length := by rw [hP, List.length_append]
  have esz : (if decide (2 ≤ finish) = true then 4 else 0) = sz finish := by unfold sz; by_cases h : 2 ≤ finish <;> simp [h]
  rw [esz] at a1 a3 a4
  have hlay : LayT (finD M R fid (decide (2 ≤ finish)) dE) number text great inner R data1.length sl0 sl1 sl2 sl3 := by rw [hP]; exact hT.pre P
  refine ⟨_, rfl, kp, ⟨R, data1.length, sl0, sl1, sl2, sl3, hlay, ⟨?_, a1, fun h => a2 (decide_eq_true h), fun h => by rw [← hfid]; exact a3⟩, hoe⟩, by lia⟩
  lia
end
end Mine
set_option maxRecDepth 100000
namespace Mine
/-- numbers read back -/
theorem leNat_digits (N : Nat) : ∀ n, leNat ((List.range n).map fun k => (N / 256 ^ k % 256).toUInt8) = N % 256 ^ n := by
  intro n
  induction n generalizing N with
  | zero => simp [leNat, Nat.mod_one]
  | succ n ih =>
    rw [List.range_succ_eq_map, List.map_cons, List.map_map]
    have e : (List.range n).map ((fun k => (N / 256 ^ k % 256).toUInt8) ∘ Nat.succ) = (List.range n).map fun k => (N / 256 / 256 ^ k % 256).toUInt8 := by
      apply List.map_congr_left
      intro k _
      show (N / 256 ^ (k + 1) % 256).toUInt8 = _
      rw [Nat.pow_succ, Nat.mul_comm, Nat.div_div_eq_div_mul]
    rw [e]
    show leNat ((List.range n).map fun k => (N / 256 / 256 ^ k % 256).toUInt8) * 256 + (N / 256 ^ 0 % 256).toUInt8.toNat = _
    rw [ih (N / 256), Nat.pow_zero, Nat.div_one]
    have h1 : (N % 256).toUInt8.toNat = N % 256 := by simp
    rw [h1, Nat.pow_succ, Nat.mul_comm (256 ^ n) 256, Nat.mod_mul]
    lia
theorem leNat_le (n : Nat) (v : Int) : leNat (leBytes n v) = (v % 2 ^ (8 * n)).toNat := by
  unfold leBytes
  rw [leNat_digits]
  have e : (256 : Nat) ^ n = 2 ^ (8 * n) := by rw [show (256 : Nat) = 2 ^ 8 from rfl, ← Nat.pow_mul]
  rw [e]
  apply Nat.mod_eq_of_lt
  have h2 : (0 : Int) < 2 ^ (8 * n) := Int.pow_pos (by decide)
  have h := Int.emod_lt_of_pos v h2
  have h0 := Int.emod_nonneg v (Int.ne_of_gt h2)
  have e2 : ((2 ^ (8 * n) : Nat) : Int) = 2 ^ (8 * n) := by push_cast; rfl
  lia
theorem leU2 {v : Int} (h : 0 ≤ v) (h2 : v < 65536) : leInt 'H' 2 (leBytes 2 v) = v := by
  unfold leInt
  rw [leNat_le]
  have e : v % 2 ^ (8 * 2) = v := Int.emod_eq_of_lt h h2
  rw [e, if_neg (by simp)]
  lia
theorem leU4 {v : Int} (h : 0 ≤ v) (h2 : v < 4294967296) : leInt 'I' 4 (leBytes 4 v) = v := by
  unfold leInt
  rw [leNat_le]
  have e : v % 2 ^ (8 * 4) = v := Int.emod_eq_of_lt h h2
  rw [e, if_neg (by simp)]
  lia
theorem leU8 {v : Int} (h : 0 ≤ v) (h2 : v < 18446744073709551616) : leInt 'Q' 8 (leBytes 8 v) = v := by
  unfold leInt
  rw [leNat_le]
  have e : v % 2 ^ (8 * 8) = v := Int.emod_eq_of_lt h h2
  rw [e, if_neg (by simp)]
  lia
theorem leS4 {v : Int} (h : -2147483648 ≤ v) (h2 : v < 2147483648) : leInt 'i' 4 (leBytes 4 v) = v := by
  unfold leInt
  rw [leNat_le]
  show (if (true && decide ((v % 4294967296).toNat ≥ 2147483648)) = true then (((v % 4294967296).toNat : Nat) : Int) - 4294967296 else (((v % 4294967296).toNat : Nat) : Int)) = v
  simp only [Bool.true_and, decide_eq_true_eq]
  split <;> lia
/-- a row of octets within others -/
structure Oct (oct : AV) (p : Nat) (D : List UInt8) (σ : AH) : Prop where
  low : ∃ O P T, lends oct σ = some O ∧ O = P ++ (D ++ T) ∧ P.length = p ∧ O.length ≤ 100000
  bare : noSt oct = some oct
noncomputable def Kp (σ s : AH) : Prop := ∀ (i : Nat) (ao : AO), σ[i]? = some ao → s[i]? = some ao
theorem Kp.refl {σ : AH} : Kp σ σ := fun _ _ e => e
theorem Kp.trans {σ s t : AH} (h : Kp σ s) (k : Kp s t) : Kp σ t := fun i ao e => k i ao (h i ao e)
theorem Kp.app {σ : AH} (τ : AH) : Kp σ (σ ++ τ) := fun _ _ e => get_app e
theorem lends_kp {oct : AV} {σ s : AH} {O : List UInt8} (h : lends oct σ = some O) (k : Kp σ s) : lends oct s = some O := by
  cases oct <;> first | exact h | skip
  rename_i i
  unfold lends at h ⊢
  dsimp only at h ⊢
  split at h
  · rename_i b q
    rw [k i _ q]
    exact h
  · cases h
theorem Oct.kp {oct : AV} {p : Nat} {D : List UInt8} {σ s : AH} (h : Oct oct p D σ) (k : Kp σ s) : Oct oct p D s := let ⟨⟨O, P, T, a, b, c, d⟩, e⟩ := h; ⟨⟨O, P, T, lends_kp a k, b, c, d⟩, e⟩
theorem Oct.noSt {oct : AV} {p : Nat} {D : List UInt8} {σ : AH} (h : Oct oct p D σ) : Mine.noSt oct = some oct := h.bare
theorem take_at {O P D T X : List UInt8} {q n : Nat} (hO : O = P ++ (D ++ T)) (hx : At D n X) (hq : q + n = P.length + D.length) : (O.drop q).take X.length = X ∧ q + X.length ≤ O.length := by
  obtain ⟨a, c, rfl, e⟩ := hx
  subst hO
  have hq' : q = (P ++ a).length := by simp at hq ⊢; lia
  have e2 : P ++ (a ++ (X ++ c) ++ T) = (P ++ a) ++ (X ++ (c ++ T)) := by simp [List.append_assoc]
  rw [e2, hq', List.drop_left, List.take_left]
  exact ⟨rfl, by simp; lia⟩
section
variable {σ : AH} {vars : Vars} {oct : AV} {p : Nat} {D : List UInt8}
theorem fUnpack_ok {x : Addr} {c : Char} {u : UInt8} {n k : Nat} {v : Int} (O : Oct oct p D σ) (hx : stOf x = some (c, u, n)) (ha : At D k (leBytes n v)) (hv : leInt c n (leBytes n v) = v) {q : Int} (hq : q = (p : Int) + D.length - k) :
    fUnpack [.st (.ref x), oct, .int q] σ = some (.obj σ.length, σ ++ [.tup [.int v]]) := by
  obtain ⟨⟨O, P, T, h1, h2, h3, h4⟩, _⟩ := O
  have hk := ha.le.1
  have hq0 : 0 ≤ q := by lia
  obtain ⟨m, rfl⟩ := Int.eq_ofNat_of_zero_le hq0
  obtain ⟨t1, t2⟩ := take_at (q := m) h2 ha (by lia)
  rw [leBytes_length] at t1 t2
  unfold fUnpack
  dsimp only
  rw [hx, h1]
  simp only [Option.bind_some]
  rw [if_pos ⟨hq0, by simpa using t2, by lia⟩]
  simp only [Int.toNat_natCast]
  rw [show (O.drop m).take n = leBytes n v from t1, hv]
theorem get_spec {x : Addr} {c : Char} {u : UInt8} {n k : Nat} {v : Int} (O : Oct oct p D σ) (hx : stOf x = some (c, u, n)) (ha : At D k (leBytes n v)) (hv : leInt c n (leBytes n v) = v) {q : Int} (hq : q = (p : Int) + D.length - k) :
    RF f_Get [.st (.ref x), oct, .int q] σ fun r s => r = .int v ∧ Kp σ s := by
  refine RF.def rfl rfl ?_
  unfold x_Get
  walk_at "pure"
  refine ⟨true, by show (stOf x).map _ = _; rw [hx]; rfl, ?_⟩
  walk_at "pure"
  refine RF.some (fUnpack_ok O hx ha hv hq) ?_
  walk_at "pure"
  refine RS.some (item_tup (k := 0) get_end rfl (by decide)) ?_
  walk_at "pure"
  exact Kp.app _
/-- a table that is read -/
structure TI (tb : Nat) (oct : AV) (pos : Int) (σ : AH) : Prop where
  inst : ∃ d, instOf .table (.obj tb) σ = some (tb, d, [some oct, some (.int pos)])
theorem TI.kp {tb : Nat} {pos : Int} {s : AH} (h : TI tb oct pos σ) (k : Kp σ s) : TI tb oct pos s := by
  obtain ⟨d, e⟩ := h.inst
  obtain ⟨_, e1, e2⟩ := instOf_some e
  refine ⟨d, ?_⟩
  unfold instOf
  dsimp only
  rw [k _ _ e1]
  exact if_pos ⟨rfl, k _ _ e2⟩
theorem TI.sel {tb : Nat} {pos : Int} (h : TI tb oct pos σ) : selI .table (.obj tb) σ = some true := by
  obtain ⟨d, e⟩ := h.inst
  unfold selI
  rw [e]; rfl
theorem RE.tBytes {k tb : Nat} {pos : Int} {Q : AV → AH → Prop} (h : TI tb oct pos σ) (hn : noSt oct = some oct) (hv : (vars[k]?).join = some (.obj tb)) (q : Q oct σ) : RE (eAttr (eVar k) (semSlot .table 0)) vars σ Q := by
  obtain ⟨d, e⟩ := h.inst
  refine RE.attr (RE.var hv ⟨oct, ?_, q⟩)
  unfold semSlot
  rw [e]
  exact hn
theorem RE.tPos {k tb : Nat} {pos : Int} {Q : AV → AH → Prop} (h : TI tb oct pos σ) (hv : (vars[k]?).join = some (.obj tb)) (q : Q (.int pos) σ) : RE (eAttr (eVar k) (semSlot .table 1)) vars σ Q := by
  obtain ⟨d, e⟩ := h.inst
  refine RE.attr (RE.var hv ⟨.int pos, ?_, q⟩)
  unfold semSlot
  rw [e]
  rfl
theorem tGet_spec {tb : Nat} {pos : Int} {y x : Addr} {c : Char} {u : UInt8} {n k : Nat} {v : Int} (Ti : TI tb oct pos σ) (O : Oct oct p D σ) (hy : y ∈ intTab) (hpk : clsAttr y "packer_type" = some (.st (.ref x))) (hx : stOf x = some (c, u, n)) (ha : At D k (leBytes n v)) (hv : leInt c n (leBytes n v) = v) {q : Int} (hq : q = (p : Int) + D.length - k) (hp : p + D.length ≤ 100000) :
    RF f_Table_Get [.obj tb, .st (.ref y), .int q] σ fun r s => r = .int v ∧ Kp σ s := by
  have hk := ha.le
  have hl := leBytes_length n v
  refine RF.def rfl rfl ?_
  unfold x_Table_Get
  walk_at "pure"
  refine RF.mono (enforce_spec ca_146_lo ca_146_hi (by lia) (by lia)) ?_
  rintro _ s ⟨rfl, rfl⟩
  walk_at "pure"
  refine ⟨false, if_pos hy, ?_⟩
  walk_at "pure"
  refine ⟨_, _, rfl, hpk, ?_⟩
  walk_at "pure"
  refine RE.tBytes Ti O.noSt rfl ?_
  walk_at "pure"
  refine RF.mono (get_spec O hx ha hv hq) ?_
  rintro _ s1 ⟨rfl, k1⟩
  walk_at "pure"
  refine RF.some (a := .int v) (s := s1) rfl ?_
  walk_at "pure"
  exact k1
theorem trimZ_get {xs : List Nat} {i s : Nat} (h : xs[i]? = some s) : (i < (trimZ xs).length → (trimZ xs)[i]? = some s) ∧ ((trimZ xs).length ≤ i → s = 0) := by
  induction xs generalizing i with
  | nil => cases h
  | cons x xs ih =>
    cases i with
    | zero =>
      have hx : x = s := by simpa using h
      subst hx
      by_cases hz : trimZ xs = []
      · by_cases h0 : x = 0
        · subst h0
          rw [trimZ_cons_zero hz]
          exact ⟨fun q => absurd q (Nat.lt_irrefl _), fun _ => rfl⟩
        · rw [trimZ_cons_ne h0]
          exact ⟨fun _ => rfl, fun q => absurd q (by simp)⟩
      · rw [trimZ_cons_more hz]
        exact ⟨fun _ => rfl, fun q => absurd q (by simp)⟩
    | succ i =>
      have h : xs[i]? = some s := by simpa using h
      have k := ih h
      by_cases hz : trimZ xs = []
      · have k2 := k.2 (by rw [hz]; exact Nat.zero_le _)
        by_cases h0 : x = 0
        · subst h0
          rw [trimZ_cons_zero hz]
          exact ⟨fun q => absurd q (Nat.not_lt_zero _), fun _ => k2⟩
        · rw [trimZ_cons_ne h0, hz]
          exact ⟨fun q => by simp at q, fun _ => k2⟩
      · rw [trimZ_cons_more hz]
        exact ⟨fun q => by simpa using k.1 (by simpa using q), fun q => k.2 (by simpa using q)⟩
theorem encV_at {D : List UInt8} {R n : Nat} : ∀ {ts : List Nat} {i s : Nat}, At D n (encV R ts) → ts[i]? = some s → At D (n - 2 * i) (leBytes 2 (if s = 0 then 0 else (R : Int) - s)) := by
  intro ts
  induction ts generalizing n with
  | nil => intro i s _ e; cases e
  | cons t ts ih =>
    intro i s h e
    rw [encV_cons] at h
    cases i with
    | zero =>
      have ht : t = s := by simpa using e
      subst ht
      exact h.left
    | succ i =>
      have hr := h.right
      rw [leBytes_length] at hr
      have := ih hr (i := i) (s := s) (by simpa using e)
      rw [show n - 2 * (i + 1) = n - 2 - 2 * i by lia]
      exact this
/-- where a slot of the table lies -/
theorem tOffset_spec {tb : Nat} {R oe : Nat} {xs : List Nat} {i s : Nat} {pos : Int} (Ti : TI tb oct pos σ) (O : Oct oct p D σ) (hpos : pos = (p : Int) + D.length - R) (hp : p + D.length ≤ 60000) (htab : At D (R + (vtab R oe xs).length) (vtab R oe xs)) (hroot : At D R (leBytes 4 (vtab R oe xs).length)) (hi : xs[i]? = some s) (hs : s ≤ R) (hoe : oe ≤ R) (hxs : xs.length ≤ 100) :
    RF f_Table_Offset [.obj tb, .int (4 + 2 * i : Nat)] σ fun r s' => r = .int (if s = 0 then 0 else (R : Int) - s) ∧ Kp σ s' := by
  have hl := vtab_length R oe xs
  have htz := trimZ_length xs
  have hle := htab.le
  have hil := (List.getElem?_eq_some_iff.mp hi).1
  have hV0 : At D (R + (vtab R oe xs).length) (leBytes 2 ((vtab R oe xs).length : Int)) := by
    have := htab
    rw [hl] at this ⊢
    unfold vtab at this
    exact this.left
  have hE : At D (R + (vtab R oe xs).length - 4) (encV R (trimZ xs)) := by
    have := htab
    rw [hl] at this ⊢
    unfold vtab at this
    have r1 := this.right
    rw [leBytes_length] at r1
    have r2 := r1.right
    rw [leBytes_length] at r2
    rw [show R + 2 * ((trimZ xs).length + 2) - 4 = R + 2 * ((trimZ xs).length + 2) - 2 - 2 by lia]
    exact r2
  generalize (vtab R oe xs).length = W at hl hle hV0 hE hroot
  clear htab
  refine RF.def rfl rfl ?_
  unfold x_Table_Offset
  walk_at "pure"
  refine RE.tPos Ti rfl ?_
  refine RE.meth (RE.var rfl ⟨true, Ti.sel, ?_⟩)
  walk_at "pure"
  refine RE.tPos Ti rfl ?_
  walk_at "pure"
  refine RF.mono (tGet_spec (v := (W : Int)) (k := R) Ti O (by decide) ca_134_pk rfl hroot (leS4 (by lia) (by lia)) hpos (by lia)) ?_
  rintro _ s1 ⟨rfl, k1⟩
  walk_at "pure"
  refine ⟨true, (Ti.kp k1).sel, ?_⟩
  walk_at "pure"
  refine RF.mono (tGet_spec (v := (W : Int)) (k := R + W) (Ti.kp k1) (O.kp k1) (by decide) ca_158_pk rfl hV0 (leU2 (by lia) (by lia)) (by lia) (by lia)) ?_
  rintro _ s2 ⟨rfl, k2⟩
  walk_at "pure"
  obtain ⟨tg1, tg2⟩ := trimZ_get hi
  by_cases hlt : i < (trimZ xs).length
  · refine IK.dt (by lia) ?_
    walk_at "pure"
    refine ⟨true, (Ti.kp (k1.trans k2)).sel, ?_⟩
    walk_at "pure"
    have he := encV_at hE (tg1 hlt)
    refine RF.mono (tGet_spec (v := if s = 0 then 0 else (R : Int) - s) (k := R + W - 4 - 2 * i) (Ti.kp (k1.trans k2)) (O.kp (k1.trans k2)) (by decide) ca_158_pk rfl he ?_ (by lia) (by lia)) ?_
    · split
      · exact leU2 (by decide) (by decide)
      · exact leU2 (by lia) (by lia)
    rintro _ s3 ⟨rfl, k3⟩
    walk_at "pure"
    exact (k1.trans k2).trans k3
  · refine IK.df (by lia) ?_
    walk_at "pure"
    rw [if_pos (tg2 (by lia))]
    exact ⟨rfl, k1.trans k2⟩
end
end Mine
set_option maxRecDepth 100000
namespace Mine
/-- a value that is these octets -/
noncomputable def TB (X : List UInt8) (r : AV) (s : AH) : Prop := r = .bytes X ∨ ∃ i, r = .obj i ∧ s[i]? = some (.ba X)
theorem TB.lends {X : List UInt8} {r : AV} {s : AH} (h : TB X r s) : lends r s = some X := by
  rcases h with rfl | ⟨i, rfl, e⟩
  · rfl
  · unfold Mine.lends
    dsimp only
    rw [e]
theorem TB.kp {X : List UInt8} {r : AV} {s t : AH} (h : TB X r s) (k : Kp s t) : TB X r t := h.imp id fun ⟨i, a, e⟩ => ⟨i, a, k _ _ e⟩
theorem lends_cases {oct : AV} {σ : AH} {O : List UInt8} (h : lends oct σ = some O) : TB O oct σ := by
  cases oct <;> first | cases h | skip
  · exact .inl rfl
  · rename_i i
    unfold lends at h
    dsimp only at h
    split at h
    · rename_i b q
      cases h
      exact .inr ⟨i, rfl, q⟩
    · cases h
section
variable {σ : AH} {vars : Vars} {oct : AV} {p : Nat} {D : List UInt8}
theorem cut_oct {X : List UInt8} {k q m : Nat} (O : Oct oct p D σ) (ha : At D k X) (hq : q + k = p + D.length) (hm : m = q + X.length) : ∃ r s, gCut oct (some q) (some m) σ = some (r, s) ∧ Kp σ s ∧ TB X r s := by
  subst hm
  obtain ⟨⟨O, P, T, h1, h2, h3, h4⟩, _⟩ := O
  obtain ⟨t1, t2⟩ := take_at (q := q) h2 ha (by lia)
  have hc : cutL O (some q) (some (q + X.length)) = X := by
    unfold cutL
    simp only [Option.getD_some, Nat.add_sub_cancel_left]
    exact t1
  rcases lends_cases h1 with rfl | ⟨i, rfl, e⟩
  · refine ⟨.bytes X, σ, ?_, Kp.refl, .inl rfl⟩
    unfold gCut
    dsimp only
    rw [if_pos (by lia), hc]
  · refine ⟨.obj σ.length, σ ++ [.ba X], ?_, Kp.app _, .inr ⟨_, rfl, get_end⟩⟩
    unfold gCut
    dsimp only
    rw [e]
    dsimp only
    rw [if_pos (by lia), hc]
theorem sizePrefix_spec {v : Int} (O : Oct oct p D σ) (ha : At D D.length (leBytes 4 v)) (h1 : -2147483648 ≤ v) (h2 : v < 2147483648) : RF f_GetSizePrefix [oct, .int p] σ fun r s => r = .int v ∧ Kp σ s := by
  refine RF.def rfl rfl ?_
  unfold x_GetSizePrefix
  walk_at "pure"
  refine RF.mono (get_spec (x := 54) O rfl ha (leS4 h1 h2) (by lia)) ?_
  rintro _ s ⟨rfl, k⟩
  walk_at "pure"
  exact k
theorem ident_spec {X : List UInt8} {sp : Bool} (O : Oct oct p D σ) (hp : p + D.length ≤ 60000) (ha : At D (D.length - (if sp then 4 else 0) - 4) X) (hX : X.length = 4) (hD : (if sp then 4 else 0) + 4 ≤ D.length) : RF f_GetBufferIdentifier [oct, .int p, .bool sp] σ fun r s => Kp σ s ∧ TB X r s := by
  refine RF.def rfl rfl ?_
  unfold x_GetBufferIdentifier
  cases sp with
  | false =>
    walk_at "pure"
    obtain ⟨r, s, e, k, tb⟩ := cut_oct (q := p + 4) (m := p + 4 + 4) O ha (by have : 0 + 4 ≤ D.length := hD; show p + 4 + (D.length - 0 - 4) = p + D.length; lia) (by lia)
    refine ⟨some (p + 4), some (p + 4 + 4), ?_, ?_, RS.some e ?_⟩
    · show (if (0 : Int) ≤ (p : Int) + 4 then some (some ((p : Int) + 4).toNat) else none) = _
      rw [if_pos (by lia)]; rfl
    · show (if (0 : Int) ≤ (p : Int) + 4 + 4 then some (some ((p : Int) + 4 + 4).toNat) else none) = _
      rw [if_pos (by lia)]; rfl
    · walk_at "pure"
      exact ⟨k, tb⟩
  | true =>
    walk_at "pure"
    obtain ⟨r, s, e, k, tb⟩ := cut_oct (q := p + 4 + 4) (m := p + 4 + 4 + 4) O ha (by have : 4 + 4 ≤ D.length := hD; show p + 4 + 4 + (D.length - 4 - 4) = p + D.length; lia) (by lia)
    refine ⟨some (p + 4 + 4), some (p + 4 + 4 + 4), ?_, ?_, RS.some e ?_⟩
    · show (if (0 : Int) ≤ (p : Int) + 4 + 4 then some (some ((p : Int) + 4 + 4).toNat) else none) = _
      rw [if_pos (by lia)]; rfl
    · show (if (0 : Int) ≤ (p : Int) + 4 + 4 + 4 then some (some ((p : Int) + 4 + 4 + 4).toNat) else none) = _
      rw [if_pos (by lia)]; rfl
    · walk_at "pure"
      exact ⟨k, tb⟩
theorem eq_tb {X mark : List UInt8} {r : AV} {s : AH} (h : TB X r s) : cEq r (.bytes mark) s = some (X == mark) := by
  rcases h with rfl | ⟨i, rfl, e⟩
  · rfl
  · unfold cEq
    dsimp only
    rw [e]
theorem hasIdent_spec {X mark : List UInt8} {sp : Bool} (O : Oct oct p D σ) (hp : p + D.length ≤ 60000) (ha : At D (D.length - (if sp then 4 else 0) - 4) X) (hX : X.length = 4) (hD : (if sp then 4 else 0) + 4 ≤ D.length) : RF f_BufferHasIdentifier [oct, .int p, .bytes mark, .bool sp] σ fun r s => r = .bool (X == mark) ∧ Kp σ s := by
  refine RF.def rfl rfl ?_
  unfold x_BufferHasIdentifier
  walk_at "pure"
  refine RF.mono (ident_spec O hp ha hX hD) ?_
  rintro r s ⟨k, tb⟩
  walk_at "pure"
  refine RC.eq (eq_tb tb) ?_
  walk_at "pure"
  exact k
theorem newTable_spec {pos : Int} (hn : noSt oct = some oct) (h0 : 0 ≤ pos) (h1 : pos ≤ 4294967295) : RF f_newTable [oct, .int pos] σ fun r s => ∃ tb, r = .obj tb ∧ TI tb oct pos s ∧ Kp σ s := by
  refine RF.new ?_
  have g1 : (σ ++ [.edict] ++ [.inst .table σ.length (List.replicate (clsNew .table) none)])[σ.length + 1]? = some (.inst .table σ.length [none, none]) := by
    have := get_end (σ := σ ++ [AO.edict]) (x := .inst .table σ.length (List.replicate (clsNew .table) none))
    rw [List.length_append] at this
    exact this
  have g2 : (σ ++ [.edict] ++ [.inst .table σ.length (List.replicate (clsNew .table) none)])[σ.length]? = some .edict := get_mid
  have k0 : Kp σ (σ ++ [.edict] ++ [.inst .table σ.length (List.replicate (clsNew .table) none)]) := (Kp.app _).trans (Kp.app _)
  generalize σ ++ [.edict] ++ [.inst .table σ.length (List.replicate (clsNew .table) none)] = s0 at g1 g2 k0
  have ks : ∀ {s : AH} {x : AO}, Kp σ s → Kp σ (s.set (σ.length + 1) x) := fun k i ao e => get_set (k i ao e) fun q => by
    have := (List.getElem?_eq_some_iff.mp e).1
    lia
  refine RF.def rfl rfl ?_
  unfold x_Table__init
  walk_at "pure"
  refine RF.mono (enforce_spec ca_146_lo ca_146_hi h0 h1) ?_
  rintro _ s ⟨rfl, rfl⟩
  walk_at "pure"
  have i1 : instOf .table (.obj (σ.length + 1)) s = some (σ.length + 1, σ.length, [none, none]) := by
    unfold instOf
    dsimp only
    rw [g1]
    exact if_pos ⟨rfl, g2⟩
  refine RX.set (RE.var rfl (RE.var rfl ⟨s.set (σ.length + 1) (.inst .table σ.length [some oct, none]), ?_, ?_⟩))
  · unfold Mine.setSlot
    rw [i1]
    rfl
  walk_at "pure"
  have g3 : (s.set (σ.length + 1) (.inst .table σ.length [some oct, none]))[σ.length + 1]? = some (.inst .table σ.length [some oct, none]) := get_self g1
  have g4 : (s.set (σ.length + 1) (.inst .table σ.length [some oct, none]))[σ.length]? = some .edict := get_set g2 (by lia)
  have k1 := ks (x := .inst .table σ.length [some oct, none]) k0
  generalize s.set (σ.length + 1) (.inst .table σ.length [some oct, none]) = s1 at g3 g4 k1 ⊢
  have i2 : instOf .table (.obj (σ.length + 1)) s1 = some (σ.length + 1, σ.length, [some oct, none]) := by
    unfold instOf
    dsimp only
    rw [g3]
    exact if_pos ⟨rfl, g4⟩
  refine RX.set (RE.var rfl (RE.var rfl ⟨s1.set (σ.length + 1) (.inst .table σ.length [some oct, some (.int pos)]), ?_, ?_⟩))
  · unfold Mine.setSlot
    rw [i2]
    rfl
  walk_at "pure"
  refine ⟨⟨σ.length, ?_⟩, ks k1⟩
  unfold instOf
  dsimp only
  rw [get_self g3]
  exact if_pos ⟨rfl, get_set g4 (by lia)⟩
theorem tSlot_spec {tb R oe i s n : Nat} {xs : List Nat} {pos v dd : Int} {y x : Addr} {c : Char} {u : UInt8} {lo hi : Int} (Ti : TI tb oct pos σ) (O : Oct oct p D σ) (hpos : pos = (p : Int) + D.length - R) (hp : p + D.length ≤ 60000) (htab : At D (R + (vtab R oe xs).length) (vtab R oe xs)) (hroot : At D R (leBytes 4 (vtab R oe xs).length)) (hix : xs[i]? = some s) (hs : s + 4 ≤ R) (hoe : oe ≤ R) (hxs : xs.length ≤ 100)
    (hlo : clsAttr y "min_val" = some (.int lo)) (hhi : clsAttr y "max_val" = some (.int hi)) (hd1 : lo ≤ dd) (hd2 : dd ≤ hi) (hy : y ∈ intTab) (hpk : clsAttr y "packer_type" = some (.st (.ref x))) (hx : stOf x = some (c, u, n)) (h0 : v = dd → s = 0) (h1 : v ≠ dd → s ≠ 0 ∧ At D s (leBytes n v)) (hv : leInt c n (leBytes n v) = v) :
    RF f_Table_GetSlot [.obj tb, .int (4 + 2 * i : Nat), .int dd, .st (.ref y)] σ fun r s' => r = .int v ∧ Kp σ s' := by
  have hil := (List.getElem?_eq_some_iff.mp hix).1
  refine RF.def rfl rfl ?_
  unfold x_Table_GetSlot
  walk_at "pure"
  refine RF.mono (enforce_spec ca_158_lo ca_158_hi (by lia) (by lia)) ?_
  rintro _ s1 ⟨rfl, rfl⟩
  walk_at "pure"
  refine RF.mono (enforce_spec hlo hhi hd1 hd2) ?_
  rintro _ s1 ⟨rfl, rfl⟩
  refine ⟨rfl, SK.next (RX.nil (SK.next (RX.seq (RX.asg (RE.meth (RE.var rfl ⟨true, Ti.sel, RL.app (RL.cons (RE.var rfl (RL.nil (RL.nil ?_))))⟩)))))) ⟩
  refine RF.mono (tOffset_spec (i := i) Ti O hpos hp htab hroot hix (by lia) hoe hxs) ?_
  rintro _ s2 ⟨rfl, k2⟩
  walk_at "pure"
  by_cases hvd : v = dd
  · rw [if_pos (h0 hvd)]
    walk_at "pure"
    exact ⟨congrArg _ hvd.symm, k2⟩
  · obtain ⟨hs0, hat⟩ := h1 hvd
    rw [if_neg hs0]
    refine IK.bf (by lia) ?_
    walk_at "pure"
    refine ⟨true, (Ti.kp k2).sel, ?_⟩
    walk_at "pure"
    refine RE.tPos (Ti.kp k2) rfl ?_
    walk_at "pure"
    refine RF.mono (tGet_spec (v := v) (k := s) (Ti.kp k2) (O.kp k2) hy hpk hx hat hv (by lia) (by lia)) ?_
    rintro _ s3 ⟨rfl, k3⟩
    walk_at "pure"
    exact k2.trans k3
theorem tString_spec {tb s w : Nat} {X : List UInt8} {pos off : Int} (Ti : TI tb oct pos σ) (O : Oct oct p D σ) (hp : p + D.length ≤ 60000) (hoff : off = (p : Int) + D.length - s) (hs : At D s (leBytes 4 ((s : Int) - w))) (hw : w ≤ s) (hX : At D w (leBytes 4 X.length ++ X)) :
    RF f_Table_String [.obj tb, .int off] σ fun r s' => r = .bytes X ∧ Kp σ s' := by
  have hsl := hs.le.1
  have hxl := hX.le
  rw [List.length_append, leBytes_length] at hxl
  refine RF.def rfl rfl ?_
  unfold x_Table_String
  walk_at "pure"
  refine RF.mono (enforce_spec ca_146_lo ca_146_hi (by lia) (by lia)) ?_
  rintro _ s1 ⟨rfl, rfl⟩
  walk_at "pure"
  refine RE.tBytes Ti O.noSt rfl ?_
  walk_at "pure"
  refine RF.mono (get_spec (x := 52) (v := (s : Int) - w) (k := s) O rfl hs (leU4 (by lia) (by lia)) hoff) ?_
  rintro _ s2 ⟨rfl, k2⟩
  walk_at "pure"
  refine RE.tBytes (Ti.kp k2) O.noSt rfl ?_
  walk_at "pure"
  refine RF.mono (get_spec (x := 52) (v := (X.length : Int)) (k := w) (O.kp k2) rfl hX.left (leU4 (by lia) (by lia)) (by lia)) ?_
  rintro _ s3 ⟨rfl, k3⟩
  walk_at "pure"
  refine RE.tBytes (Ti.kp (k2.trans k3)) O.noSt rfl ?_
  walk_at "pure"
  have hr := hX.right
  rw [leBytes_length] at hr
  obtain ⟨q, hq⟩ : ∃ q : Nat, off + ((s : Int) - w) + 4 = (q : Int) := ⟨p + D.length - w + 4, by lia⟩
  obtain ⟨r, s4, e, k4, tb4⟩ := cut_oct (q := q) (m := q + X.length) (O.kp (k2.trans k3)) hr (by lia) rfl
  refine ⟨some q, some (q + X.length), ?_, ?_, RS.some e ?_⟩
  · show (if (0 : Int) ≤ off + ((s : Int) - w) + 4 then some (some (off + ((s : Int) - w) + 4).toNat) else none) = _
    rw [hq, if_pos (by lia), Int.toNat_natCast]
  · show (if (0 : Int) ≤ off + ((s : Int) - w) + 4 + (X.length : Int) then some (some (off + ((s : Int) - w) + 4 + (X.length : Int)).toNat) else none) = _
    rw [hq, if_pos (by lia)]; rfl
  walk_at "pure"
  refine RF.some (a := .bytes X) (s := s4) ?_ ?_
  · show fBytes [r] s4 = _
    unfold fBytes
    dsimp only
    rw [tb4.lends]
    exact if_pos (by lia)
  walk_at "pure"
  exact (k2.trans k3).trans k4
theorem tVector_spec {tb R s w : Nat} {X : List UInt8} {pos : Int} (Ti : TI tb oct pos σ) (O : Oct oct p D σ) (hpos : pos = (p : Int) + D.length - R) (hp : p + D.length ≤ 60000) (hR : R ≤ D.length) (hsR : s ≤ R) (hs : At D s (leBytes 4 ((s : Int) - w))) (hw : w ≤ s) (hX : At D w (leBytes 4 X.length ++ X)) :
    RF f_Table_Vector [.obj tb, .int ((R : Int) - s)] σ fun r s' => r = .int ((p : Int) + D.length - w + 4) ∧ Kp σ s' := by
  have hsl := hs.le.1
  have hxl := hX.le
  rw [List.length_append, leBytes_length] at hxl
  have hRl : (0 : Int) ≤ (R : Int) - s := by lia
  refine RF.def rfl rfl ?_
  unfold x_Table_Vector
  have hbig : (R : Int) - s ≤ 4294967295 := by lia
  · walk_at "pure"
    refine RF.mono (enforce_spec ca_146_lo ca_146_hi hRl hbig) ?_
    rintro _ s1 ⟨rfl, rfl⟩
    walk_at "pure"
    refine RE.tPos Ti rfl ?_
    walk_at "pure"
    refine ⟨true, Ti.sel, ?_⟩
    walk_at "pure"
    refine RF.mono (tGet_spec (v := (s : Int) - w) (k := s) Ti O (by decide) ca_146_pk rfl hs (leU4 (by lia) (by lia)) (by lia) (by lia)) ?_
    rintro _ s2 ⟨rfl, k2⟩
    walk_at "pure"
    refine ⟨?_, k2⟩
    congr 1
    lia
theorem tVectorLen_spec {tb R s w : Nat} {X : List UInt8} {pos : Int} (Ti : TI tb oct pos σ) (O : Oct oct p D σ) (hpos : pos = (p : Int) + D.length - R) (hp : p + D.length ≤ 60000) (hR : R ≤ D.length) (hsR : s ≤ R) (hs : At D s (leBytes 4 ((s : Int) - w))) (hw : w ≤ s) (hX : At D w (leBytes 4 X.length ++ X)) :
    RF f_Table_VectorLen [.obj tb, .int ((R : Int) - s)] σ fun r s' => r = .int X.length ∧ Kp σ s' := by
  have hsl := hs.le.1
  have hxl := hX.le
  rw [List.length_append, leBytes_length] at hxl
  refine RF.def rfl rfl ?_
  unfold x_Table_VectorLen
  walk_at "pure"
  refine RF.mono (enforce_spec ca_146_lo ca_146_hi (by lia) (by lia)) ?_
  rintro _ s1 ⟨rfl, rfl⟩
  walk_at "pure"
  refine RE.tPos Ti rfl ?_
  walk_at "pure"
  refine RE.tBytes Ti O.noSt rfl ?_
  walk_at "pure"
  refine RF.mono (get_spec (x := 52) (v := (s : Int) - w) (k := s) O rfl hs (leU4 (by lia) (by lia)) (by lia)) ?_
  rintro _ s2 ⟨rfl, k2⟩
  walk_at "pure"
  refine RE.tBytes (Ti.kp k2) O.noSt rfl ?_
  walk_at "pure"
  refine RF.mono (get_spec (x := 52) (v := (X.length : Int)) (k := w) (O.kp k2) rfl hX.left (leU4 (by lia) (by lia)) (by lia)) ?_
  rintro _ s3 ⟨rfl, k3⟩
  walk_at "pure"
  exact k2.trans k3
end
end Mine
set_option maxRecDepth 100000
namespace Mine
/-- the front of a buffer, by octets -/
theorem le4_octets {v : Int} (h : 0 ≤ v) (h2 : v < 65536) : ∃ x0 x1 x2 x3 : UInt8, leBytes 4 v = [x0, x1, x2, x3] ∧ (x0.toNat : Int) + 256 * x1.toNat = v := by
  refine ⟨((v % 2 ^ (8 * 4)).toNat / 256 ^ 0 % 256).toUInt8, ((v % 2 ^ (8 * 4)).toNat / 256 ^ 1 % 256).toUInt8, ((v % 2 ^ (8 * 4)).toNat / 256 ^ 2 % 256).toUInt8, ((v % 2 ^ (8 * 4)).toNat / 256 ^ 3 % 256).toUInt8, rfl, ?_⟩
  have e : v % 2 ^ (8 * 4) = v := Int.emod_eq_of_lt h (by show v < 4294967296; lia)
  rw [e]
  have h0 : (v.toNat / 256 ^ 0 % 256).toUInt8.toNat = v.toNat / 1 % 256 := by simp
  have h1 : (v.toNat / 256 ^ 1 % 256).toUInt8.toNat = v.toNat / 256 % 256 := by simp
  rw [h0, h1]
  lia
section
variable {σ : AH} {vars : Vars} {oct : AV} {p : Nat} {D : List UInt8}
theorem item_oct {X Y : List UInt8} {x : UInt8} {k q : Nat} (O : Oct oct p D σ) (ha : At D k (X ++ (x :: Y))) (hq : q + k = p + D.length + X.length) : gItem oct (.int q) σ = some (.int x.toNat, σ) := by
  obtain ⟨⟨O, P, T, h1, h2, h3, h4⟩, _⟩ := O
  have hl := ha.le
  have hr := ha.right
  have hl2 := hr.le
  obtain ⟨t1, t2⟩ := take_at (q := q) h2 hr (by simp at hl hl2 hq ⊢; lia)
  have hg : O[q]? = some x := by
    have := congrArg (fun l => l[0]?) t1
    simp only [List.getElem?_cons_zero] at this
    rw [List.getElem?_take_of_lt (by simp), List.getElem?_drop] at this
    simpa using this
  unfold gItem
  dsimp only
  have hqq : q < O.length := (List.getElem?_eq_some_iff.mp hg).1
  rw [if_pos (by lia), h1]
  dsimp only
  rw [Int.toNat_natCast, hg]
  rfl
theorem TI.nostOct {tb : Nat} {pos : Int} (h : TI tb oct pos σ) : True := trivial
/-- names for the variables of _law_level -/
noncomputable abbrev lv (oct : AV) (p : Int) (many : Int) (wi : Nat) (number great : Int) (text : Option Str) (inner : Option (List UInt8)) (finish : Nat) (v4 v5 v6 v7 v8 v9 : Option AV) : Vars :=
  [some oct, some (.int p), some (.int many), some (.obj wi), v4, v5, v6, v7, v8, v9, some (.int number), some (tv text), some (.int great), some (iv inner), some (.int finish)]
theorem idList {finish : Nat} (h : finish ≤ 3) : ([AV.bytes [], .bytes [76, 65, 87, 49], .bytes [], .bytes [108, 97, 119, 50]])[finish]? = some (.bytes (idOf finish)) := by
  have : finish = 0 ∨ finish = 1 ∨ finish = 2 ∨ finish = 3 := by lia
  rcases this with rfl | rfl | rfl | rfl <;> rfl
theorem fmod2 (n : Nat) : ((n : Int).fmod 2) = ((n % 2 : Nat) : Int) := by
  rw [Int.fmod_eq_emod_of_nonneg _ (by decide)]; lia
theorem RE.ids {k finish : Nat} {Q : AV → AH → Prop} (hf : finish ≤ 3) (hv : (vars[k]?).join = some (.int finish)) (q : ∀ s, Kp σ s → Q (.bytes (idOf finish)) s) :
    RE (eBin gItem (eList [(eConst (.bytes [])), (eConst (.bytes [76, 65, 87, 49])), (eConst (.bytes [])), (eConst (.bytes [108, 97, 119, 50]))]) (eVar k)) vars σ Q := by
  refine RE.bin (RE.list ?_)
  refine RL.cons (RE.const ?_)
  refine RL.cons (RE.const ?_)
  refine RL.cons (RE.const ?_)
  refine RL.cons (RE.const ?_)
  refine RL.nil (RE.var hv ?_)
  exact RS.some (item_list get_end (idList hf) (by lia)) (q _ (Kp.app _))
/-- the identifier's place -/
noncomputable def IdAt (D : List UInt8) (finish : Nat) : Prop := finish % 2 = 1 → At D (D.length - sz finish - 4) (idOf finish) ∧ sz finish + 4 ≤ D.length
theorem IdAt.use {finish : Nat} (h : IdAt D finish) (h1 : finish % 2 = 1) (hf : finish ≤ 3) : At D (D.length - (if decide (2 ≤ finish) = true then 4 else 0) - 4) (idOf finish) ∧ (if decide (2 ≤ finish) = true then 4 else 0) + 4 ≤ D.length ∧ (idOf finish).length = 4 := by
  have esz : (if decide (2 ≤ finish) = true then 4 else 0) = sz finish := by unfold sz; by_cases h : 2 ≤ finish <;> simp [h]
  rw [esz]
  refine ⟨(h h1).1, (h h1).2, ?_⟩
  have : finish = 1 ∨ finish = 3 := by lia
  rcases this with rfl | rfl <;> rfl
/-- one look for a mark -/
theorem lv_mark {number great many : Int} {text : Option Str} {inner : Option (List UInt8)} {finish wi : Nat} {mark : List UInt8} {v6 v7 v8 v9 : Option AV} {Q : Fl → Vars → AH → Prop} (O : Oct oct p D σ) (hp : p + D.length ≤ 60000) (hf : finish ≤ 3) (hF : IdAt D finish)
    (q : ∀ s, Kp σ s → Q .next (lv oct p many wi number great text inner finish (some (.bool (decide (2 ≤ finish)))) (some (.bytes mark)) v6 v7 v8 v9) s) :
    RX (xSeq (xIf (bAnd (bCmp mEq (eBin mMod (eVar 14) (eConst (.int 2))) (eConst (.int 1))) (bCmp mNe (eCall ([(eVar 0), (eVar 1), (eVar 5)] ++ [(eVar 4)]) f_BufferHasIdentifier) (eCmp mEq (eVar 5) (eBin gItem (eList [(eConst (.bytes [])), (eConst (.bytes [76, 65, 87, 49])), (eConst (.bytes [])), (eConst (.bytes [108, 97, 119, 50]))]) (eVar 14))))) (xSeq (xRet (eConst .none)) xNil) xNil) xNil)
      (lv oct p many wi number great text inner finish (some (.bool (decide (2 ≤ finish)))) (some (.bytes mark)) v6 v7 v8 v9) σ Q := by
  refine RX.seq (RX.ite (RB.and (RB.cmp (RE.bin (RE.var rfl (RE.const (RS.pure2 rfl ?_)))))))
  rw [fmod2]
  refine RE.const (RC.eq rfl ?_)
  by_cases h1 : finish % 2 = 1
  · obtain ⟨ha, hD, hl4⟩ := hF.use h1 hf
    refine IK.bt (by lia) ?_
    refine RB.cmp (RE.call (RL.app ?_))
    refine RL.cons (RE.var rfl (RL.cons (RE.var rfl (RL.cons (RE.var rfl (RL.nil ?_))))))
    refine RL.cons (RE.var rfl (RL.nil ?_))
    refine RF.mono (hasIdent_spec (X := idOf finish) (sp := decide (2 ≤ finish)) O hp ha hl4 hD) ?_
    rintro _ s ⟨rfl, k⟩
    refine RE.cmp (RE.var rfl (RE.ids hf rfl fun s2 k2 => RC.eq rfl (RC.ne rfl ?_)))
    refine IK.nbf ?_ (RX.nil (SK.next (RX.nil (q _ (k.trans k2)))))
    rw [Bool.eq_iff_iff, beq_iff_eq, beq_iff_eq]
    exact eq_comm
  · exact IK.bf (by lia) (IK.f (RX.nil (SK.next (RX.nil (q _ Kp.refl)))))
end
end Mine
set_option maxRecDepth 100000
namespace Mine
section
variable {σ : AH} {vars : Vars} {oct : AV} {p : Nat} {D : List UInt8} {number great many : Int} {text : Option Str} {inner : Option (List UInt8)} {finish wi : Nat} {v4 v5 v6 v7 v8 v9 : Option AV}
theorem RX.guard {c : Bo} {f : Ex} {Q : Fl → Vars → AH → Prop} (h : RB c vars σ fun b s => b = false ∧ Q .next vars s) : RX (xIf c f xNil) vars σ Q := by
  obtain ⟨b, s, e, rfl, q⟩ := h
  exact RX.ite ⟨false, s, e, IK.f (RX.nil q)⟩
theorem RB.mono {f : Bo} {Q Q' : Bool → AH → Prop} (h : RB f vars σ Q) (k : ∀ a s, Q a s → Q' a s) : RB f vars σ Q' := let ⟨a, s, e, q⟩ := h; ⟨a, s, e, k a s q⟩
theorem iTup_eq {f : Ev} {j : Nat} {xs : List AV} {s : AH} (h : f vars σ = some (.obj j, s)) (hj : s[j]? = some (.tup xs)) : iTup f vars σ = some (.tup j 0, s) := by
  unfold iTup
  rw [h]
  simp only [Option.bind_some]
  rw [hj]
theorem next_tup {j i : Nat} {xs : List AV} {a : AV} (hj : σ[j]? = some (.tup xs)) (h : xs[i]? = some a) : nextIt (.tup j i) σ = some (some (a, .tup j (i + 1))) := by
  unfold nextIt
  dsimp only
  rw [hj]
  dsimp only
  rw [h]; rfl
theorem next_tup_end {j i : Nat} {xs : List AV} (hj : σ[j]? = some (.tup xs)) (h : xs[i]? = none) : nextIt (.tup j i) σ = some none := by
  unfold nextIt
  dsimp only
  rw [hj]
  dsimp only
  rw [h]; rfl
theorem g_size (O : Oct oct p D σ) (hs : 2 ≤ finish → At D D.length (leBytes 4 ((D.length : Int) - 4))) (hp : p + D.length ≤ 60000) (h4 : 4 ≤ D.length) :
    RB (bAnd (bVal (eVar 4)) (bCmp mNe (eCall ([(eVar 0), (eVar 1)] ++ []) f_GetSizePrefix) (eBin mSub (eVar 2) (eConst (.int 4))))) (lv oct p D.length wi number great text inner finish (some (.bool (decide (2 ≤ finish)))) v5 v6 v7 v8 v9) σ fun b s => b = false ∧ Kp σ s := by
  refine RB.and (RB.val (RE.var rfl ⟨_, rfl, ?_⟩))
  by_cases h : 2 ≤ finish
  · refine IK.dt h ?_
    refine RB.cmp (RE.call (RL.app ?_))
    refine RL.cons (RE.var rfl (RL.cons (RE.var rfl (RL.nil (RL.nil ?_)))))
    refine RF.mono (sizePrefix_spec (v := (D.length : Int) - 4) O (hs h) (by lia) (by lia)) ?_
    rintro _ s ⟨rfl, k⟩
    refine RE.bin (RE.var rfl (RE.const (RS.pure2 rfl (RC.ne rfl ?_))))
    exact ⟨by simp, k⟩
  · exact IK.df h ⟨rfl, Kp.refl⟩
theorem g_ident (O : Oct oct p D σ) (hp : p + D.length ≤ 60000) (hf : finish ≤ 3) (hF : IdAt D finish) :
    RB (bAnd (bCmp mEq (eBin mMod (eVar 14) (eConst (.int 2))) (eConst (.int 1))) (bCmp mNe (eCall ([(eCall ([(eVar 0), (eVar 1)] ++ [(eVar 4)]) f_GetBufferIdentifier)] ++ []) fBytes) (eBin gItem (eList [(eConst (.bytes [])), (eConst (.bytes [76, 65, 87, 49])), (eConst (.bytes [])), (eConst (.bytes [108, 97, 119, 50]))]) (eVar 14))))
      (lv oct p many wi number great text inner finish (some (.bool (decide (2 ≤ finish)))) v5 v6 v7 v8 v9) σ fun b s => b = false ∧ Kp σ s := by
  refine RB.and (RB.cmp (RE.bin (RE.var rfl (RE.const (RS.pure2 rfl ?_)))))
  rw [fmod2]
  refine RE.const (RC.eq rfl ?_)
  by_cases h1 : finish % 2 = 1
  · obtain ⟨ha, hD, hl4⟩ := hF.use h1 hf
    refine IK.bt (by lia) ?_
    refine RB.cmp (RE.call (RL.app ?_))
    refine RL.cons (RE.call (RL.app ?_))
    refine RL.cons (RE.var rfl (RL.cons (RE.var rfl (RL.nil ?_))))
    refine RL.cons (RE.var rfl (RL.nil ?_))
    refine RF.mono (ident_spec (X := idOf finish) (sp := decide (2 ≤ finish)) O hp ha hl4 hD) ?_
    rintro r s ⟨k, tb⟩
    refine RL.nil (RL.nil ?_)
    refine RF.some (a := .bytes (idOf finish)) (s := s) ?_ ?_
    · show fBytes [r] s = _
      unfold fBytes
      dsimp only
      rw [tb.lends]
      exact if_pos (by lia)
    refine RE.ids hf rfl fun s2 k2 => RC.ne rfl ?_
    exact ⟨by simp, k.trans k2⟩
  · exact IK.bf (by lia) ⟨rfl, Kp.refl⟩
theorem marks_loop {Q : Fl → Vars → AH → Prop} (O : Oct oct p D σ) (hp : p + D.length ≤ 60000) (hf : finish ≤ 3) (hF : IdAt D finish)
    (q : ∀ v5 s, Kp σ s → Q .next (lv oct p many wi number great text inner finish (some (.bool (decide (2 ≤ finish)))) v5 v6 v7 v8 v9) s) :
    RX (xFor 5 70 (iTup (eTup [(eConst (.bytes [76, 65, 87, 49])), (eConst (.bytes [108, 97, 119, 50])), (eConst (.bytes [108, 97, 119, 49]))])) (xSeq (xIf (bAnd (bCmp mEq (eBin mMod (eVar 14) (eConst (.int 2))) (eConst (.int 1))) (bCmp mNe (eCall ([(eVar 0), (eVar 1), (eVar 5)] ++ [(eVar 4)]) f_BufferHasIdentifier) (eCmp mEq (eVar 5) (eBin gItem (eList [(eConst (.bytes [])), (eConst (.bytes [76, 65, 87, 49])), (eConst (.bytes [])), (eConst (.bytes [108, 97, 119, 50]))]) (eVar 14))))) (xSeq (xRet (eConst .none)) xNil) xNil) xNil))
      (lv oct p many wi number great text inner finish (some (.bool (decide (2 ≤ finish)))) v5 v6 v7 v8 v9) σ Q := by
  have hj : (σ ++ [AO.tup [.bytes [76, 65, 87, 49], .bytes [108, 97, 119, 50], .bytes [108, 97, 119, 49]]])[σ.length]? = some (.tup [.bytes [76, 65, 87, 49], .bytes [108, 97, 119, 50], .bytes [108, 97, 119, 49]]) := get_end
  have k0 : Kp σ (σ ++ [AO.tup [.bytes [76, 65, 87, 49], .bytes [108, 97, 119, 50], .bytes [108, 97, 119, 49]]]) := Kp.app _
  refine RX.for (iTup_eq rfl hj) ?_
  generalize σ ++ [AO.tup [.bytes [76, 65, 87, 49], .bytes [108, 97, 119, 50], .bytes [108, 97, 119, 49]]] = s0 at hj k0 ⊢
  refine RX.forS (next_tup hj rfl) (of_decide_eq_true rfl) ?_
  refine lv_mark (O.kp k0) hp hf hF fun s1 k1 => ?_
  refine LK.next (RX.forS (next_tup (k1 _ _ hj) rfl) (of_decide_eq_true rfl) ?_)
  refine lv_mark (O.kp (k0.trans k1)) hp hf hF fun s2 k2 => ?_
  refine LK.next (RX.forS (next_tup (k2 _ _ (k1 _ _ hj)) rfl) (of_decide_eq_true rfl) ?_)
  refine lv_mark (O.kp ((k0.trans k1).trans k2)) hp hf hF fun s3 k3 => ?_
  refine LK.next (RX.forE (next_tup_end (k3 _ _ (k2 _ _ (k1 _ _ hj))) rfl) ?_)
  exact q _ _ (((k0.trans k1).trans k2).trans k3)
/-- the table is found -/
theorem table_at {R : Nat} {rest : Ex} {Q : Fl → Vars → AH → Prop} (O : Oct oct p D σ) (hp : p + D.length ≤ 60000) (hfit : sz finish + R ≤ D.length) (hR : 4 ≤ R) (hr : At D (D.length - sz finish) (leBytes 4 ((D.length : Int) - sz finish - R)))
    (q : ∀ tb s v6, Kp σ s → TI tb oct ((p : Int) + D.length - R) s → RX rest (lv oct p many wi number great text inner finish (some (.bool (decide (2 ≤ finish)))) v5 v6 (some (.obj tb)) v8 v9) s Q) :
    RX (xSeq (xAsg 6 (eBin mAdd (eVar 1) (eIf (bVal (eVar 4)) (eConst (.int 4)) (eConst (.int 0))))) (xSeq (xAsg 7 (eCall ([(eVar 0), (eBin mAdd (eBin mAdd (eVar 6) (eBin gItem (eVar 0) (eVar 6))) (eBin mMul (eConst (.int 256)) (eBin gItem (eVar 0) (eBin mAdd (eVar 6) (eConst (.int 1))))))] ++ []) f_newTable)) rest))
      (lv oct p many wi number great text inner finish (some (.bool (decide (2 ≤ finish)))) v5 v6 v7 v8 v9) σ Q := by
  have hat : RE (eBin mAdd (eVar 1) (eIf (bVal (eVar 4)) (eConst (.int 4)) (eConst (.int 0)))) (lv oct p many wi number great text inner finish (some (.bool (decide (2 ≤ finish)))) v5 v6 v7 v8 v9) σ fun a s => a = .int ((p + sz finish : Nat) : Int) ∧ s = σ := by
    refine RE.bin (RE.var rfl (RE.ite (RB.val (RE.var rfl ⟨_, rfl, ?_⟩))))
    by_cases h : 2 ≤ finish
    · refine IK.dt h (RE.const (RS.pure2 rfl ⟨?_, rfl⟩))
      unfold sz
      rw [if_pos h]; rfl
    · refine IK.df h (RE.const (RS.pure2 rfl ⟨?_, rfl⟩))
      unfold sz
      rw [if_neg h]; rfl
  refine RX.seq (RX.asg (hat.mono ?_))
  rintro _ s ⟨rfl, rfl⟩
  refine ⟨of_decide_eq_true rfl, SK.next (RX.seq (RX.asg ?_))⟩
  obtain ⟨x0, x1, x2, x3, hx, hsum⟩ := le4_octets (v := (D.length : Int) - sz finish - R) (by lia) (by lia)
  rw [hx] at hr
  have i0 := item_oct (X := []) (x := x0) (Y := [x1, x2, x3]) (q := p + sz finish) O hr (by simp; lia)
  have i1 := item_oct (X := [x0]) (x := x1) (Y := [x2, x3]) (q := p + sz finish + 1) O hr (by simp; lia)
  refine RE.call (RL.app ?_)
  refine RL.cons (RE.var rfl ?_)
  refine RL.cons ?_
  refine RE.bin (RE.bin (RE.var rfl (RE.bin (RE.var rfl (RE.var rfl (RS.some i0 (RS.pure2 rfl ?_)))))))
  refine RE.bin (RE.const (RE.bin (RE.var rfl (RE.bin (RE.var rfl (RE.const (RS.pure2 rfl ?_)))))))
  refine RS.some (i1) ?_
  refine RS.pure2 (c := .int (256 * (x1.toNat : Int))) ?_ (RS.pure2 rfl ?_)
  · unfold fInt2
    dsimp only
    rw [if_pos (.inl (by decide))]
    rfl
  refine RL.nil (RL.nil ?_)
  have epos : ((p + sz finish : Nat) : Int) + (x0.toNat : Int) + 256 * (x1.toNat : Int) = (p : Int) + D.length - R := by lia
  rw [epos]
  refine RF.mono (newTable_spec O.noSt (by lia) (by lia)) ?_
  rintro _ s2 ⟨tb, rfl, ti, k⟩
  exact ⟨of_decide_eq_true rfl, SK.next (q _ _ _ k ti)⟩
/-- the numbers agree -/
theorem g_nums {tb R oe s0 s1 s2 s3 : Nat} (Ti : TI tb oct ((p : Int) + D.length - R) σ) (O : Oct oct p D σ) (hp : p + D.length ≤ 60000) (hT : LayT D number text great inner R oe s0 s1 s2 s3) (hoe : oe ≤ R) (hn1 : -2147483648 ≤ number) (hn2 : number ≤ 2147483647) (hg1 : 0 ≤ great) (hg2 : great ≤ 18446744073709551615) :
    RB (bCmp mNe (eTup [(eMeth (eVar 7) (selI .table) ([(eConst (.int 4)), (eConst (.int 5)), (eSt (.ref 120))] ++ []) f_Table_GetSlot), (eMeth (eVar 7) (selI .table) ([(eConst (.int 10)), (eConst (.int 0)), (eSt (.ref 106))] ++ []) f_Table_GetSlot)]) (eTup [(eVar 10), (eVar 12)]))
      (lv oct p many wi number great text inner finish v4 v5 v6 (some (.obj tb)) v8 v9) σ fun b s => b = false ∧ Kp σ s := by
  refine RB.cmp (RE.tup (RL.cons (RE.meth (RE.var rfl ⟨true, Ti.sel, RL.app ?_⟩))))
  refine RL.cons (RE.const (RL.cons (RE.const (RL.cons (RE.st (RL.nil (RL.nil ?_)))))))
  refine RF.mono (tSlot_spec (i := 0) (s := s0) (n := 4) (v := number) (dd := 5) Ti O rfl hp hT.tab hT.root rfl hT.le0 hoe (by simp) ca_120_lo ca_120_hi (by decide) (by decide) (by decide) ca_120_pk rfl hT.num.1 hT.num.2 (leS4 hn1 (by lia))) ?_
  rintro _ t1 ⟨rfl, k1⟩
  refine RL.cons (RE.meth (RE.var rfl ⟨true, (Ti.kp k1).sel, RL.app ?_⟩))
  refine RL.cons (RE.const (RL.cons (RE.const (RL.cons (RE.st (RL.nil (RL.nil ?_)))))))
  refine RF.mono (tSlot_spec (i := 3) (s := s3) (n := 8) (v := great) (dd := 0) (Ti.kp k1) (O.kp k1) rfl hp hT.tab hT.root rfl hT.le3 hoe (by simp) ca_106_lo ca_106_hi (by decide) (by decide) (by decide) ca_106_pk rfl hT.grt.1 hT.grt.2 (leU8 hg1 (by lia))) ?_
  rintro _ t2 ⟨rfl, k2⟩
  refine RL.nil (RE.tup (RL.cons (RE.var rfl (RL.cons (RE.var rfl (RL.nil ?_))))))
  refine RC.ne (c := false) ?_ ⟨rfl, ((k1.trans k2).trans (Kp.app _)).trans (Kp.app _)⟩
  unfold cNe
  dsimp only
  rw [get_app get_end, get_end]
  show (if ([number, great] : List Int).length = ([number, great] : List Int).length then some ([number, great] != [number, great]) else none) = some false
  rw [if_pos rfl]
  simp
theorem ofs_at {tb R oe s0 s1 s2 s3 i s vo : Nat} {Q : AV → AH → Prop} {k : Nat} (Ti : TI tb oct ((p : Int) + D.length - R) σ) (O : Oct oct p D σ) (hp : p + D.length ≤ 60000) (hT : LayT D number text great inner R oe s0 s1 s2 s3) (hoe : oe ≤ R) (hv : (vars[k]?).join = some (.obj tb)) (hi : [s0, s1, s2, s3][i]? = some s) (hvo : vo = 4 + 2 * i)
    (q : ∀ t, Kp σ t → Q (.int (if s = 0 then 0 else (R : Int) - s)) t) : RE (eMeth (eVar k) (selI .table) ([(eConst (.int (vo : Int)))] ++ []) f_Table_Offset) vars σ Q := by
  subst hvo
  have hs : s + 4 ≤ R := by
    have := hT.le0
    have := hT.le1
    have := hT.le2
    have := hT.le3
    match i, hi with
    | 0, hi => cases hi; assumption
    | 1, hi => cases hi; assumption
    | 2, hi => cases hi; assumption
    | 3, hi => cases hi; assumption
  refine RE.meth (RE.var hv ⟨true, Ti.sel, RL.app (RL.cons (RE.const (RL.nil (RL.nil ?_))))⟩)
  refine RF.mono (tOffset_spec (i := i) Ti O rfl hp hT.tab hT.root hi (by lia) hoe (by simp)) ?_
  rintro _ t ⟨rfl, k⟩
  exact q t k
/-- the text agrees -/
theorem g_text {tb R oe s0 s1 s2 s3 : Nat} (Ti : TI tb oct ((p : Int) + D.length - R) σ) (O : Oct oct p D σ) (hp : p + D.length ≤ 60000) (hT : LayT D number text great inner R oe s0 s1 s2 s3) (ht : tOK text) :
    RB (bCmp mNe (eIf (bCmp mEq (eVar 8) (eConst (.int 0))) (eConst .none) (eMeth (eVar 7) (selI .table) ([(eBin mAdd (eAttr (eVar 7) (semSlot .table 1)) (eVar 8))] ++ []) f_Table_String)) (eIf (bCmp mIs (eVar 11) (eConst .none)) (eConst .none) (eMeth (eVar 11) selStr ([(eConst (.str "utf-8"))] ++ []) fEnc)))
      (lv oct p many wi number great text inner finish v4 v5 v6 (some (.obj tb)) (some (.int (if s1 = 0 then 0 else (R : Int) - s1))) v9) σ fun b s => b = false ∧ Kp σ s := by
  have hle := hT.le1
  have htx := hT.txt
  cases text with
  | none =>
    have h0 : s1 = 0 := htx
    subst h0
    refine RB.cmp (RE.ite (RB.cmp (RE.var rfl (RE.const (RC.eq rfl (IK.t (RE.const ?_)))))))
    exact RE.ite (RB.cmp (RE.var rfl (RE.const (RC.s rfl (IK.t (RE.const (RC.ne rfl ⟨rfl, Kp.refl⟩)))))))
  | some t =>
    obtain ⟨h0, w, hw, ha, hX⟩ : s1 ≠ 0 ∧ ∃ w, w ≤ s1 ∧ At D s1 (leBytes 4 ((s1 : Int) - w)) ∧ At D w (leBytes 4 (encU t).length ++ encU t) := htx
    rw [if_neg h0]
    refine RB.cmp (RE.ite (RB.cmp (RE.var rfl (RE.const (RC.eq rfl (IK.bf (by lia) ?_))))))
    refine RE.meth (RE.var rfl ⟨true, Ti.sel, RL.app ?_⟩)
    refine RL.cons (RE.bin (RE.tPos Ti rfl (RE.var rfl (RS.pure2 rfl (RL.nil (RL.nil ?_))))))
    refine RF.mono (tString_spec (s := s1) (w := w) (X := encU t) Ti O hp (by lia) ha hw hX) ?_
    rintro _ s ⟨rfl, k⟩
    refine RE.ite (RB.cmp (RE.var rfl (RE.const (RC.s rfl (IK.f ?_)))))
    refine RE.meth (RE.var rfl ⟨true, rfl, RL.app (RL.cons (RE.const (RL.nil (RL.nil ?_))))⟩)
    refine RF.some (a := .bytes (encU t)) (s := s) ?_ ?_
    · show fEnc [.str t, .str "utf-8"] s = _
      unfold fEnc
      exact if_pos ⟨rfl, ht.1, by have := ht.2; lia⟩
    refine RC.ne rfl ?_
    exact ⟨by simp, k⟩
/-- a slot that leads to a vector, and where -/
noncomputable def LeadsW (x : Option (List UInt8)) (s w : Nat) (D : List UInt8) : Prop := match x with
  | none => s = 0
  | some x => s ≠ 0 ∧ w ≤ s ∧ At D s (leBytes 4 ((s : Int) - w)) ∧ At D w (leBytes 4 x.length ++ x)
theorem LeadsTo.w {x : Option (List UInt8)} {s : Nat} (h : LeadsTo x s D) : ∃ w, LeadsW x s w D := by
  cases x with
  | none => exact ⟨0, h⟩
  | some x =>
    obtain ⟨a, w, b, c, d⟩ := h
    exact ⟨w, a, b, c, d⟩
/-- what a level gives back -/
noncomputable def RowOf (inner : Option (List UInt8)) (p : Nat) (D : List UInt8) (w : Nat) (a c : Int) : Prop := match inner with
  | none => a = 0 ∧ c = 0
  | some x => a = (p : Int) + D.length - w + 4 ∧ c = x.length ∧ At D w (leBytes 4 x.length ++ x)
theorem level_spec {R oe s0 s1 s2 s3 w : Nat} {x5 : AV} (O : Oct oct p D σ) (hw : σ[wi]? = some (.tup [.int number, tv text, .int great, iv inner, .int finish, x5])) (hT : LayT D number text great inner R oe s0 s1 s2 s3) (hF : LayF D finish R) (hoe : oe ≤ R) (hin : LeadsW inner s2 w D) (hp : p + D.length ≤ 60000) (hf : finish ≤ 3) (hn1 : -2147483648 ≤ number) (hn2 : number ≤ 2147483647) (hg1 : 0 ≤ great) (hg2 : great ≤ 18446744073709551615) (ht : tOK text) :
    RF f_law_level [oct, .int p, .int D.length, .obj wi] σ fun v s => Kp σ s ∧ ∃ k a c, v = .obj k ∧ s[k]? = some (.list true [.int a, .int c]) ∧ RowOf inner p D w a c := by
  have hle := hT.le0
  have hfit := hF.fits
  have hId : IdAt D finish := fun h => ⟨hF.ident h, by lia⟩
  refine RF.def rfl rfl ?_
  unfold x_law_level
  refine RX.seq (RX.unp (RE.cut (RE.var rfl (RE.optNone (RE.optSome (RE.const ⟨none, some 5, rfl, rfl, ?_⟩))))))
  refine RS.some (a := .obj σ.length) (s := σ ++ [.tup [.int number, tv text, .int great, iv inner, .int finish]]) ?_ ?_
  · show gCut (.obj wi) none (some 5) σ = _
    unfold gCut
    dsimp only
    rw [hw]
    exact if_pos ⟨rfl, rfl⟩
  refine ⟨[.int number, tv text, .int great, iv inner, .int finish], lv oct p D.length wi number great text inner finish none none none none none none, by unfold itemsOf; dsimp only; rw [get_end], rfl, rfl, ?_⟩
  have k0 : Kp σ (σ ++ [.tup [.int number, tv text, .int great, iv inner, .int finish]]) := Kp.app _
  generalize σ ++ [.tup [.int number, tv text, .int great, iv inner, .int finish]] = t0 at k0 ⊢
  refine SK.next (RX.seq (RX.asg (RE.cmp (RE.var rfl (RE.const (RC.s rfl ⟨of_decide_eq_true rfl, SK.next ?_⟩))))))
  have hdec : decide ((1 : Int) < (finish : Int)) = decide (2 ≤ finish) := decide_eq_decide.mpr (by lia)
  show RX _ (lv oct p D.length wi number great text inner finish (some (.bool (decide ((1 : Int) < (finish : Int))))) none none none none none) t0 _
  rw [hdec]
  refine RX.seq (RX.guard ((g_size (O.kp k0) hF.size hp (by lia)).mono ?_))
  rintro _ t1 ⟨rfl, k1⟩
  have k1 := k0.trans k1
  refine ⟨rfl, SK.next (RX.seq (marks_loop (O.kp k1) hp hf hId fun v5 t2 k2 => SK.next (RX.seq (RX.guard ?_))))⟩
  have k2 := k1.trans k2
  refine (g_ident (O.kp k2) hp hf hId).mono ?_
  rintro _ t3 ⟨rfl, k3⟩
  have k3 := k2.trans k3
  refine ⟨rfl, SK.next (table_at (O.kp k3) hp hfit (by lia) hF.root fun tb t4 v6 k4 ti4 => RX.seq (RX.guard ?_))⟩
  have k4 := k3.trans k4
  refine (g_nums ti4 (O.kp k4) hp hT hoe hn1 hn2 hg1 hg2).mono ?_
  rintro _ t5 ⟨rfl, k5⟩
  have ti5 := ti4.kp k5
  have k5 := k4.trans k5
  refine ⟨rfl, SK.next (RX.seq (RX.asg (ofs_at (i := 1) (s := s1) ti5 (O.kp k5) hp hT hoe rfl rfl rfl fun t6 k6 => ⟨of_decide_eq_true rfl, SK.next (RX.seq (RX.guard ?_))⟩)))⟩
  have ti6 := ti5.kp k6
  have k6 := k5.trans k6
  refine (g_text ti6 (O.kp k6) hp hT ht).mono ?_
  rintro _ t7 ⟨rfl, k7⟩
  have ti7 := ti6.kp k7
  have k7 := k6.trans k7
  refine ⟨rfl, SK.next (RX.seq (RX.asg (ofs_at (i := 2) (s := s2) ti7 (O.kp k7) hp hT hoe rfl rfl rfl fun t8 k8 => ⟨of_decide_eq_true rfl, SK.next (RX.seq (RX.guard ?_))⟩)))⟩
  have ti8 := ti7.kp k8
  have k8 := k7.trans k8
  have hle2 := hT.le2
  cases inner with
  | none =>
    have h0 : s2 = 0 := hin
    subst h0
    refine RB.cmp (RE.cmp (RE.var rfl (RE.const (RC.eq rfl ?_))))
    refine RE.cmp (RE.var rfl (RE.const (RC.s rfl (RC.ne rfl ⟨rfl, ?_⟩))))
    refine SK.next (RX.seq (RX.ite (RB.cmp (RE.var rfl (RE.const (RC.eq rfl (IK.t ?_)))))))
    refine RX.seq (RX.ret (RE.list ?_))
    refine RL.cons (RE.const (RL.cons (RE.const (RL.nil ?_))))
    exact ⟨k8.trans (Kp.app _), _, 0, 0, rfl, get_end, rfl, rfl⟩
  | some x =>
    obtain ⟨h0, hw2, ha, hX⟩ : s2 ≠ 0 ∧ w ≤ s2 ∧ At D s2 (leBytes 4 ((s2 : Int) - w)) ∧ At D w (leBytes 4 x.length ++ x) := hin
    have hxl := hX.le
    rw [List.length_append, leBytes_length] at hxl
    rw [if_neg h0]
    refine RB.cmp (RE.cmp (RE.var rfl (RE.const (RC.eq rfl ?_))))
    refine RE.cmp (RE.var rfl (RE.const (RC.s rfl (RC.ne rfl ⟨?_, ?_⟩))))
    · have : ((R : Int) - s2 == 0) = false := beq_eq_false_iff_ne.mpr (by lia)
      rw [this]; rfl
    refine SK.next (RX.seq (RX.ite (RB.cmp (RE.var rfl (RE.const (RC.eq rfl (IK.bf (by lia) (RX.nil (SK.next ?_)))))))))
    refine RX.seq (RX.asg (RE.list ?_))
    refine RL.cons (RE.meth (RE.var rfl ⟨true, ti8.sel, RL.app (RL.cons (RE.var rfl (RL.nil (RL.nil ?_))))⟩))
    refine RF.mono (tVector_spec (s := s2) (w := w) (X := x) ti8 (O.kp k8) rfl hp (by lia) (by lia) ha hw2 hX) ?_
    rintro _ t9 ⟨rfl, k9⟩
    have ti9 := ti8.kp k9
    have k9 := k8.trans k9
    refine RL.cons (RE.meth (RE.var rfl ⟨true, ti9.sel, RL.app (RL.cons (RE.var rfl (RL.nil (RL.nil ?_))))⟩))
    refine RF.mono (tVectorLen_spec (s := s2) (w := w) (X := x) ti9 (O.kp k9) rfl hp (by lia) (by lia) ha hw2 hX) ?_
    rintro _ t10 ⟨rfl, k10⟩
    have k10 := k9.trans k10
    refine RL.nil ⟨of_decide_eq_true rfl, SK.next ?_⟩
    have hk : (t10 ++ [AO.list true [.int ((p : Int) + D.length - w + 4), .int x.length]])[t10.length]? = some (.list true [.int ((p : Int) + D.length - w + 4), .int x.length]) := get_end
    have k11 : Kp σ (t10 ++ [AO.list true [.int ((p : Int) + D.length - w + 4), .int x.length]]) := k10.trans (Kp.app _)
    generalize t10 ++ [AO.list true [.int ((p : Int) + D.length - w + 4), .int x.length]] = t11 at hk k11 ⊢
    refine RX.seq (RX.ret (RE.ite (RB.cmp ?_)))
    obtain ⟨q, hq⟩ : ∃ q : Nat, (p : Int) + D.length - w + 4 = (q : Int) := ⟨p + D.length - w + 4, by lia⟩
    have i0 : gItem (.obj t10.length) (.int 0) t11 = some (.int q, t11) := by rw [← hq]; exact item_list (k := 0) hk rfl (by decide)
    have i1 : gItem (.obj t10.length) (.int 1) t11 = some (.int x.length, t11) := item_list (k := 1) hk rfl (by decide)
    have hr := hX.right
    rw [leBytes_length] at hr
    obtain ⟨r, t12, e, k12, tb12⟩ := cut_oct (q := q) (m := q + x.length) (O.kp k11) hr (by lia) rfl
    refine RE.call (RL.app (RL.cons (RE.cut (RE.var rfl (RE.optSome ?_)))))
    refine RE.bin (RE.var rfl (RE.const (RS.some i0 (RE.optSome ?_))))
    refine RE.bin (RE.bin (RE.var rfl (RE.const (RS.some i0 (RE.bin (RE.var rfl (RE.const (RS.some i1 (RS.pure2 rfl ?_)))))))))
    refine ⟨some q, some (q + x.length), ?_, ?_, RS.some e (RL.nil (RL.nil ?_))⟩
    · show (if (0 : Int) ≤ (q : Int) then some (some (q : Int).toNat) else none) = _
      rw [if_pos (by lia), Int.toNat_natCast]
    · show (if (0 : Int) ≤ (q : Int) + (x.length : Int) then some (some ((q : Int) + (x.length : Int)).toNat) else none) = _
      rw [if_pos (by lia)]; rfl
    refine RF.some (a := .bytes x) (s := t12) ?_ ?_
    · show fBytes [r] t12 = _
      unfold fBytes
      dsimp only
      rw [tb12.lends]
      exact if_pos (by lia)
    refine RE.var rfl (RC.eq rfl (IK.bt rfl (RE.var rfl ?_)))
    exact ⟨k11.trans k12, _, _, _, rfl, k12 _ _ hk, rfl, rfl, hX⟩
end
end Mine
set_option maxRecDepth 100000
namespace Mine
section
variable {σ : AH} {vars : Vars}
theorem RE.cell {X : AV} {Q : AV → AH → Prop} (hc : σ[1]? = some (.cell (some X))) (q : Q X σ) : RE (eCell 1) vars σ Q := ⟨X, σ, by unfold eCell; rw [hc], q⟩
theorem RX.asgC {f : Ev} {Q : Fl → Vars → AH → Prop} (h : RE f vars σ fun a s => (∃ u, s[1]? = some (.cell u)) ∧ Q .next vars (s.set 1 (.cell (some a)))) : RX (xAsgC 1 f) vars σ Q := by
  obtain ⟨a, s, e, ⟨u, hu⟩, q⟩ := h
  refine ⟨.next, vars, _, ?_, q⟩
  unfold xAsgC
  rw [e]
  simp only [Option.bind_some]
  rw [hu]
theorem RS.fdiv {x y : Int} {Q : AV → AH → Prop} (h1 : y ≠ 0) (h2 : y.natAbs < 1073741824) (q : Q (.int (x.fdiv y)) σ) : RS (mFDiv (.int x) (.int y) σ) Q :=
  RS.pure2 (by unfold fInt2; dsimp only; rw [if_pos ⟨h1, h2⟩]; rfl) q
theorem RS.fmod {x y : Int} {Q : AV → AH → Prop} (h1 : y ≠ 0) (q : Q (.int (x.fmod y)) σ) : RS (mMod (.int x) (.int y) σ) Q :=
  RS.pure2 (by unfold fInt2; dsimp only; rw [if_pos h1]; rfl) q
theorem RE.dm {f : Ev} {c d : Int} {Q : AV → AH → Prop} (h1 : c ≠ 0) (h2 : c.natAbs < 1073741824) (h3 : d ≠ 0) (h : RE f vars σ fun a s => ∃ X, a = .int X ∧ Q (.int ((X.fdiv c).fmod d)) s) : RE (eBin mMod (eBin mFDiv f (eConst (.int c))) (eConst (.int d))) vars σ Q := by
  refine RE.bin (RE.bin (h.mono ?_))
  rintro _ s ⟨X, rfl, q⟩
  exact RE.const (RS.fdiv h1 h2 (RE.const (RS.fmod h3 q)))
theorem RE.md {f : Ev} {d : Int} {Q : AV → AH → Prop} (h3 : d ≠ 0) (h : RE f vars σ fun a s => ∃ X, a = .int X ∧ Q (.int (X.fmod d)) s) : RE (eBin mMod f (eConst (.int d))) vars σ Q := by
  refine RE.bin (h.mono ?_)
  rintro _ s ⟨X, rfl, q⟩
  exact RE.const (RS.fmod h3 q)
theorem RE.two32 {Q : AV → AH → Prop} (q : Q (.int 4294967296) σ) : RE (eBin mPow (eConst (.int 2)) (eConst (.int 32))) vars σ Q := RE.bin (RE.const (RE.const (RS.pure2 (by decide +kernel) q)))
theorem RE.two31 {Q : AV → AH → Prop} (q : Q (.int 2147483648) σ) : RE (eBin mPow (eConst (.int 2)) (eConst (.int 31))) vars σ Q := RE.bin (RE.const (RE.const (RS.pure2 (by decide +kernel) q)))
theorem RE.two64 {Q : AV → AH → Prop} (q : Q (.int 18446744073709551616) σ) : RE (eBin mPow (eConst (.int 2)) (eConst (.int 64))) vars σ Q := RE.bin (RE.const (RE.const (RS.pure2 (by decide +kernel) q)))
theorem fmod_rng (x : Int) {d : Int} (h : 0 < d) : 0 ≤ x.fmod d ∧ x.fmod d < d := ⟨Int.fmod_nonneg_of_pos x h, Int.fmod_lt_of_pos x h⟩
theorem fmod_nat (x : Int) {d : Nat} (h : 0 < d) : ∃ n : Nat, x.fmod d = n ∧ n < d := by
  have h2 : (0 : Int) < d := by lia
  have h3 := fmod_rng x h2
  exact ⟨(x.fmod d).toNat, by lia, by lia⟩
end
/-- the letters' texts -/
theorem glyph_mem (X : Int) (i : Nat) : glyphAt X i ∈ glyphs := by
  unfold glyphAt
  have h := fmod4 (X.fdiv (4 ^ i))
  obtain ⟨n, hn, hl⟩ : ∃ n : Nat, (X.fdiv (4 ^ i)).fmod 4 = n ∧ n < 4 := ⟨((X.fdiv (4 ^ i)).fmod 4).toNat, by lia, by lia⟩
  rw [hn, Int.toNat_natCast]
  have hlen : glyphs.length = 4 := rfl
  rw [List.getD_eq_getElem?_getD, List.getElem?_eq_getElem (by lia)]
  exact List.getElem_mem _
theorem glyph_ok : ∀ g ∈ glyphs, g.length ≤ 1 ∧ ∀ c ∈ g.cps.toList, Str.isSurrogate c = false ∧ (Str.utf8Of c).length ≤ 2 := by decide +kernel
theorem textLen_lt (X : Int) : textLen X < 9 := by
  have := fmod_rng (X.fdiv 5) (d := 9) (by decide)
  unfold textLen
  lia
theorem text_list (X : Int) : ∀ t ∈ (List.range (textLen X)).map (glyphAt X), t ∈ glyphs := by
  intro t ht
  obtain ⟨i, _, rfl⟩ := List.mem_map.mp ht
  exact glyph_mem X i
theorem text_join (X : Int) : JoinOk "" ((List.range (textLen X)).map (glyphAt X)) = true := by
  unfold JoinOk
  rw [StrLaws.joinFits (B := 1) (fun y hy => (glyph_ok y (text_list X y hy)).1)]
  · rfl
  · have := textLen_lt X
    have e : ((("" : String) : Str)).length = 0 := by decide +kernel
    rw [e]
    simp
    lia
theorem flat_le {f : Nat → List UInt8} : ∀ {l : List Nat}, (∀ c ∈ l, (f c).length ≤ 2) → (l.flatMap f).length ≤ 2 * l.length
  | [], _ => by simp
  | c :: l, h => by
    have h1 := h c (.head _)
    have h2 := flat_le (l := l) fun d hd => h d (.tail _ hd)
    rw [List.flatMap_cons, List.length_append, List.length_cons]
    lia
theorem text_eq (X : Int) : textOf X = Str.join "" ((List.range (textLen X)).map (glyphAt X)) := StrLaws.glued_eq_join _ _
theorem text_cps (X : Int) : ∀ c ∈ (textOf X).cps.toList, Str.isSurrogate c = false ∧ (Str.utf8Of c).length ≤ 2 := by
  intro c hc
  rw [text_eq, mem_join] at hc
  rcases hc with ⟨t, ht, hc⟩ | ⟨_, hc⟩
  · exact (glyph_ok t (text_list X t ht)).2 c hc
  · have e : ((("" : String) : Str)).cps.toList = [] := by decide +kernel
    rw [e] at hc
    cases hc
theorem text_len (X : Int) : (encU (textOf X)).length ≤ 32 := by
  unfold encU
  have h1 := flat_le (f := Str.utf8Of) fun c hc => (text_cps X c hc).2
  have h2 : (textOf X).cps.toList.length ≤ 8 := by
    have h3 := StrLaws.join_length_le "" ((List.range (textLen X)).map (glyphAt X))
    have h4 := StrLaws.sumLen_le (B := 1) ((List.range (textLen X)).map (glyphAt X)) fun y hy => (glyph_ok y (text_list X y hy)).1
    have e : ((("" : String) : Str)).length = 0 := by decide +kernel
    rw [e] at h3
    rw [← text_eq] at h3
    simp only [List.length_map, List.length_range, Nat.mul_zero, Nat.mul_one] at h3 h4
    have h5 := textLen_lt X
    have h6 : (textOf X).cps.toList.length = (textOf X).length := by simp [Str.length]
    lia
  lia
theorem text_ok (X : Int) : tOK (some (textOf X)) := by
  refine ⟨?_, by have := text_len X; lia⟩
  rw [List.all_eq_true]
  intro c hc
  rw [(text_cps X c hc).1]; rfl
theorem strsOf_map : ∀ l : List Str, strsOf (l.map .str) = some l
  | [] => rfl
  | s :: l => by rw [List.map_cons, strsOf, strsOf_map l]; rfl
end Mine
set_option maxRecDepth 100000
namespace Mine
/-- a level, as it was made -/
structure Lv where
  number : Int
  text : Option Str
  great : Int
  inner : Option (List UInt8)
  finish : Nat
  strange : Nat
  D : List UInt8
noncomputable def Lv.av (w : Lv) : AO := .tup [.int w.number, tv w.text, .int w.great, iv w.inner, .int w.finish, .int w.strange]
structure Lv.Ok (w : Lv) : Prop where
  lay : Lay w.D w.number w.text w.great w.inner w.finish
  n1 : -2147483648 ≤ w.number
  n2 : w.number ≤ 2147483647
  g1 : 0 ≤ w.great
  g2 : w.great ≤ 18446744073709551615
  t : tOK w.text
  f : w.finish ≤ 3
  len : w.D.length ≤ ilen w.inner + 182
/-- levels within each other, the outermost first -/
noncomputable def Chain : List Lv → Option (List UInt8) → Nat → Prop
  | [], i, s => (i = none ∨ i = some []) ∧ s = 0
  | w :: r, i, s => w.Ok ∧ s ≤ 3 ∧ i = some (w.D ++ List.replicate s 5) ∧ Chain r w.inner w.strange
theorem Chain.len : ∀ {ls : List Lv} {i : Option (List UInt8)} {s : Nat}, Chain ls i s → ilen i ≤ 185 * ls.length
  | [], i, s, h => by
    rcases h.1 with rfl | rfl <;> exact Nat.zero_le _
  | w :: r, i, s, ⟨a, b, c, d⟩ => by
    subst c
    have h1 := Chain.len d
    have h2 := a.len
    show (w.D ++ List.replicate s 5).length ≤ _
    rw [List.length_append, List.length_replicate, List.length_cons]
    lia
/-- what law's loops find in the heap -/
structure G (xs : List Int) (wl : Nat) (ls : List Lv) (σ : AH) : Prop where
  s0 : σ[0]? = some (.list false (xs.map .int))
  c1 : ∃ u, σ[1]? = some (.cell u)
  idx : ∃ ix : List Nat, σ[wl]? = some (.list true (ix.map .obj)) ∧ ix.length = ls.length ∧ ∀ (i : Nat) (w : Lv), ls.reverse[i]? = some w → ∃ k, ix[i]? = some k ∧ σ[k]? = some w.av
section
variable {σ : AH} {vars : Vars} {xs : List Int} {wl : Nat} {ls : List Lv}
theorem G.kp {s : AH} (g : G xs wl ls σ) (k : Kp σ s) : G xs wl ls s := by
  obtain ⟨a, ⟨u, b⟩, ix, c, d, e⟩ := g
  exact ⟨k _ _ a, ⟨u, k _ _ b⟩, ix, k _ _ c, d, fun i w h => let ⟨j, h1, h2⟩ := e i w h; ⟨j, h1, k _ _ h2⟩⟩
theorem G.cell (g : G xs wl ls σ) (u : Option AV) : G xs wl ls (σ.set 1 (.cell u)) ∧ (σ.set 1 (.cell u))[1]? = some (.cell u) := by
  obtain ⟨a, ⟨v, b⟩, ix, c, d, e⟩ := g
  refine ⟨⟨get_set a (by decide), ⟨u, get_self b⟩, ix, get_set c (ne_of_get b c (by intro e; cases e)), d, fun i w h => ?_⟩, get_self b⟩
  obtain ⟨j, h1, h2⟩ := e i w h
  exact ⟨j, h1, get_set h2 (ne_of_get b h2 (by intro e; cases e))⟩
theorem G.push {w : Lv} {k : Nat} (g : G xs wl ls σ) (hk : σ[k]? = some w.av) (hl : ls.length ≤ 100) : ∃ s, fAppend [.obj wl, .obj k] σ = some (.none, s) ∧ G xs wl (w :: ls) s ∧ ∀ i ao, i ≠ wl → σ[i]? = some ao → s[i]? = some ao := by
  obtain ⟨a, ⟨v, b⟩, ix, c, d, e⟩ := g
  refine ⟨_, append_list c (by simp; lia), ⟨get_set a (ne_of_get c a (by intro e; cases e)), ⟨v, get_set b (ne_of_get c b (by intro e; cases e))⟩, ix ++ [k], ?_, by simp [d], fun i w' h => ?_⟩, fun i ao hi e => get_set e (Ne.symm hi)⟩
  · rw [List.map_append]
    exact get_self c
  · rw [List.reverse_cons] at h
    have nw : ∀ {j : Nat} {w : Lv}, σ[j]? = some w.av → (σ.set wl (.list true (ix.map .obj ++ [.obj k])))[j]? = some w.av := fun h => get_set h (ne_of_get c h (by intro e; cases e))
    by_cases hi : i < ls.length
    · rw [List.getElem?_append_left (by simpa using hi)] at h
      obtain ⟨j, h1, h2⟩ := e i w' h
      exact ⟨j, by rw [List.getElem?_append_left (by lia)]; exact h1, nw h2⟩
    · have hlt := (List.getElem?_eq_some_iff.mp h).1
      have : i = ls.length := by simp at hlt; lia
      subst this
      rw [List.getElem?_append_right (by simp)] at h
      simp at h
      subst h
      exact ⟨k, by rw [← d, List.getElem?_append_right (Nat.le_refl _)]; simp, nw hk⟩
theorem Kp.cellX {X : AV} {s : AH} (h : σ[1]? = some (.cell (some X))) (k : Kp σ s) : s[1]? = some (.cell (some X)) := k _ _ h
/-- law's expressions -/
theorem e_number {X : Int} (hX : σ[1]? = some (.cell (some (.int X)))) : RE (eBin gItem (eList [(eBin mSub (eBin mMod (eBin mFDiv (eCell 1) (eConst (.int 8))) (eBin mPow (eConst (.int 2)) (eConst (.int 32)))) (eBin mPow (eConst (.int 2)) (eConst (.int 31)))), (eConst (.int 5))]) (eIf (bCmp mEq (eBin mMod (eCell 1) (eConst (.int 11))) (eConst (.int 0))) (eBin mMod (eBin mFDiv (eCell 1) (eConst (.int 7))) (eConst (.int 2))) (eConst (.int 0)))) vars σ
    fun a s => Kp σ s ∧ ∃ n : Int, a = .int n ∧ -2147483648 ≤ n ∧ n ≤ 2147483647 := by
  have hr := fmod_rng (X.fdiv 8) (d := 4294967296) (by decide)
  refine RE.bin (RE.list (RL.cons ?_))
  refine RE.bin (RE.bin (RE.bin (RE.cell hX (RE.const (RS.fdiv (by decide) (by decide) (RE.two32 (RS.fmod (by decide) (RE.two31 (RS.pure2 rfl ?_)))))))))
  refine RL.cons (RE.const (RL.nil ?_))
  have hX2 : (σ ++ [AO.list true [.int ((X.fdiv 8).fmod 4294967296 - 2147483648), .int 5]])[1]? = some (.cell (some (.int X))) := get_app hX
  refine RE.ite (RB.cmp (RE.md (by decide) (RE.cell hX2 ⟨_, rfl, RE.const (RC.eq rfl ?_)⟩)))
  have fin : ∀ j : Nat, j < 2 → RS (gItem (.obj σ.length) (.int j) (σ ++ [AO.list true [.int ((X.fdiv 8).fmod 4294967296 - 2147483648), .int 5]])) fun a s => Kp σ s ∧ ∃ n : Int, a = .int n ∧ -2147483648 ≤ n ∧ n ≤ 2147483647 := by
    intro j hj
    have : j = 0 ∨ j = 1 := by lia
    rcases this with rfl | rfl
    · exact RS.some (item_list get_end rfl (by decide)) ⟨Kp.app _, _, rfl, by lia, by lia⟩
    · exact RS.some (item_list get_end rfl (by decide)) ⟨Kp.app _, _, rfl, by lia, by lia⟩
  refine ⟨fun _ => ?_, fun _ => ?_⟩
  · refine RE.dm (by decide) (by decide) (by decide) (RE.cell hX2 ⟨_, rfl, ?_⟩)
    obtain ⟨n, hn, hl⟩ := fmod_nat (X.fdiv 7) (d := 2) (by decide)
    rw [show (X.fdiv 7).fmod 2 = (n : Int) from hn]
    exact fin n hl
  · exact RE.const (fin 0 (by decide))
theorem e_text {X : Int} (hX : σ[1]? = some (.cell (some (.int X)))) : RE (eIf (bCmp mEq (eBin mMod (eBin mFDiv (eCell 1) (eConst (.int 3))) (eConst (.int 4))) (eConst (.int 3))) (eConst .none) (eMeth (eConst (.str "")) selStr ([(eLetters 1)] ++ []) fJoin)) vars σ
    fun a s => Kp σ s ∧ ∃ t : Option Str, a = tv t ∧ tOK t ∧ tlen t ≤ 32 := by
  refine RE.ite (RB.cmp (RE.dm (by decide) (by decide) (by decide) (RE.cell hX ⟨_, rfl, RE.const (RC.eq rfl ?_)⟩)))
  refine ⟨fun _ => RE.const ⟨Kp.refl, none, rfl, trivial, Nat.zero_le _⟩, fun _ => ?_⟩
  refine RE.meth (RE.const ⟨true, rfl, RL.app (RL.cons ?_)⟩)
  refine ⟨.obj σ.length, σ ++ [.list false ((List.range (textLen X)).map fun i => .str (glyphAt X i))], by unfold eLetters; rw [hX], RL.nil (RL.nil ?_)⟩
  refine RF.some (a := .str (textOf X)) (s := σ ++ [.list false ((List.range (textLen X)).map fun i => .str (glyphAt X i))]) ?_ ⟨Kp.app _, some (textOf X), rfl, text_ok X, text_len X⟩
  show fJoin [.str "", .obj σ.length] _ = _
  unfold fJoin
  dsimp only
  rw [get_end]
  dsimp only
  have e : (List.range (textLen X)).map (fun i => AV.str (glyphAt X i)) = ((List.range (textLen X)).map (glyphAt X)).map .str := by rw [List.map_map]; rfl
  rw [e, strsOf_map]
  simp only [Option.bind_some]
  rw [if_pos (text_join X)]
  rfl
theorem e_great {X : Int} (hX : σ[1]? = some (.cell (some (.int X)))) : RE (eIf (bCmp mEq (eBin mMod (eCell 1) (eConst (.int 6))) (eConst (.int 5))) (eConst (.int 0)) (eBin mMod (eCell 1) (eBin mPow (eConst (.int 2)) (eConst (.int 64))))) vars σ
    fun a s => s = σ ∧ ∃ n : Int, a = .int n ∧ 0 ≤ n ∧ n ≤ 18446744073709551615 := by
  have hr := fmod_rng X (d := 18446744073709551616) (by decide)
  refine RE.ite (RB.cmp (RE.md (by decide) (RE.cell hX ⟨_, rfl, RE.const (RC.eq rfl ?_)⟩)))
  refine ⟨fun _ => RE.const ⟨rfl, 0, rfl, by decide, by decide⟩, fun _ => ?_⟩
  exact RE.bin (RE.cell hX (RE.two64 (RS.fmod (by decide) ⟨rfl, _, rfl, hr.1, by lia⟩)))
theorem e_finish {X b k : Int} (hX : σ[1]? = some (.cell (some (.int X)))) (h6 : (vars[6]?).join = some (.int b)) (h2 : (vars[2]?).join = some (.int k)) : RE (eBin mMod (eBin mAdd (eBin mAdd (eBin mFDiv (eCell 1) (eConst (.int 2))) (eVar 6)) (eVar 2)) (eConst (.int 4))) vars σ
    fun a s => s = σ ∧ ∃ n : Nat, a = .int n ∧ n ≤ 3 := by
  refine RE.md (by decide) ?_
  refine RE.bin (RE.bin (RE.bin (RE.cell hX (RE.const (RS.fdiv (by decide) (by decide) (RE.var h6 (RS.pure2 rfl (RE.var h2 (RS.pure2 rfl ?_)))))))))
  refine ⟨_, rfl, ?_⟩
  obtain ⟨n, hn, hl⟩ := fmod_nat (X.fdiv 2 + b + k) (d := 4) (by decide)
  exact ⟨rfl, n, congrArg AV.int hn, by lia⟩
theorem e_size {b k : Int} (h6 : (vars[6]?).join = some (.int b)) (h2 : (vars[2]?).join = some (.int k)) : RE (eBin gItem (eList [(eConst (.int 0)), (eConst (.int 7)), (eConst (.int 64))]) (eBin mMod (eBin mAdd (eBin mFDiv (eVar 6) (eConst (.int 4))) (eVar 2)) (eConst (.int 3)))) vars σ
    fun a s => Kp σ s ∧ ∃ n : Nat, a = .int n ∧ n ≤ 1000 := by
  refine RE.bin (RE.list ?_)
  refine RL.cons (RE.const (RL.cons (RE.const (RL.cons (RE.const (RL.nil ?_))))))
  refine RE.md (by decide) ?_
  refine RE.bin (RE.bin (RE.var h6 (RE.const (RS.fdiv (by decide) (by decide) (RE.var h2 (RS.pure2 rfl ⟨_, rfl, ?_⟩))))))
  obtain ⟨n, hn, hl⟩ := fmod_nat (b.fdiv 4 + k) (d := 3) (by decide)
  rw [show (b.fdiv 4 + k).fmod 3 = (n : Int) from hn]
  have : n = 0 ∨ n = 1 ∨ n = 2 := by lia
  rcases this with rfl | rfl | rfl
  · exact RS.some (item_list (k := 0) get_end rfl (by decide)) ⟨Kp.app _, 0, rfl, by decide⟩
  · exact RS.some (item_list (k := 1) get_end rfl (by decide)) ⟨Kp.app _, 7, rfl, by decide⟩
  · exact RS.some (item_list (k := 2) get_end rfl (by decide)) ⟨Kp.app _, 64, rfl, by decide⟩
theorem e_x {a b : Int} {k : Nat} (hk : k ≤ 3) (hx : xs.length ≤ 63) (g : σ[0]? = some (.list false (xs.map .int))) (h0 : (vars[0]?).join = some (.obj 0)) (h5 : (vars[5]?).join = some (.int a)) (h6 : (vars[6]?).join = some (.int b)) (h2 : (vars[2]?).join = some (.int k)) :
    RE (eIf (bCmp mLt (eBin mAdd (eVar 2) (eConst (.int 2))) (eCall ([(eVar 0)] ++ []) fLen)) (eBin gItem (eVar 0) (eBin mAdd (eVar 2) (eConst (.int 2)))) (eBin mAdd (eBin mAdd (eBin mAdd (eVar 5) (eBin mMul (eVar 6) (eVar 2))) (eBin mMul (eConst (.int 40)) (eVar 2))) (eConst (.int 7)))) vars σ
    fun v s => s = σ ∧ ∃ X : Int, v = .int X := by
  refine RE.ite (RB.cmp (RE.bin (RE.var h2 (RE.const (RS.pure2 rfl ?_)))))
  refine RE.call (RL.app (RL.cons (RE.var h0 (RL.nil (RL.nil ?_)))))
  refine RF.some (len_list g (by simp; lia)) (RC.s rfl ?_)
  refine ⟨fun h => ?_, fun _ => ?_⟩
  · have hlt : (k : Int) + 2 < ((xs.map AV.int).length : Int) := of_decide_eq_true h
    have hlt2 : k + 2 < xs.length := by rw [List.length_map] at hlt; lia
    refine RE.bin (RE.var h0 (RE.bin (RE.var h2 (RE.const (RS.pure2 rfl ?_)))))
    refine RS.some (item_list (k := k + 2) (x := .int xs[k + 2]) g ?_ (by lia)) ⟨rfl, _, rfl⟩
    rw [List.getElem?_map, List.getElem?_eq_getElem hlt2]
    rfl
  · refine RE.bin (RE.bin (RE.bin (RE.var h5 (RE.bin (RE.var h6 (RE.var h2 (RS.mulR (by lia) (RS.pure2 rfl ?_))))))))
    exact RE.bin (RE.const (RE.var h2 (RS.mulR (by lia) (RS.pure2 rfl (RE.const (RS.pure2 rfl ⟨rfl, _, rfl⟩))))))
theorem e_strange {X deep : Int} {k : Nat} (hX : σ[1]? = some (.cell (some (.int X)))) (h1 : (vars[1]?).join = some (.int deep)) (h2 : (vars[2]?).join = some (.int k)) : RE (eIf (bCmp mLt (eVar 2) (eBin mSub (eVar 1) (eConst (.int 1)))) (eBin mMod (eBin mFDiv (eCell 1) (eConst (.int 13))) (eConst (.int 4))) (eConst (.int 0))) vars σ
    fun a s => s = σ ∧ ∃ n : Nat, a = .int n ∧ n ≤ 3 ∧ ((k : Int) + 1 = deep → n = 0) := by
  refine RE.ite (RB.cmp (RE.var h2 (RE.bin (RE.var h1 (RE.const (RS.pure2 rfl (RC.s rfl ?_)))))))
  refine ⟨fun h => ?_, fun _ => RE.const ⟨rfl, 0, rfl, by decide, fun _ => rfl⟩⟩
  have hlt : (k : Int) < deep - 1 := of_decide_eq_true h
  refine RE.dm (by decide) (by decide) (by decide) (RE.cell hX ⟨_, rfl, ?_⟩)
  obtain ⟨n, hn, hl⟩ := fmod_nat (X.fdiv 13) (d := 4) (by decide)
  exact ⟨rfl, n, congrArg AV.int hn, by lia, fun e => by lia⟩
theorem flat_one (x : UInt8) (n : Nat) : (List.replicate n [x]).flatten = List.replicate n x := by
  induction n with
  | zero => rfl
  | succ n ih => rw [List.replicate_succ, List.flatten_cons, ih]; rfl
theorem rep_bytes {x : UInt8} {n : Nat} (h : n ≤ 1000) : fRep (.bytes [x]) (.int n) σ = some (.bytes (List.replicate n x), σ) := by
  unfold fRep
  dsimp only
  rw [if_pos ⟨by simp, by simp, by lia, by lia⟩, Int.toNat_natCast, flat_one]
theorem add_bytes {x y : List UInt8} {Q : AV → AH → Prop} (h : x.length + y.length ≤ 16777216) (q : Q (.bytes (x ++ y)) σ) : RS (mAdd (.bytes x) (.bytes y) σ) Q :=
  RS.pure2 (by unfold fAdd; dsimp only; rw [if_pos h]) q
noncomputable abbrev lw (deep a b : Int) (k : Option AV) (inner : Option (List UInt8)) (wl strange : Nat) (n t g f m : Option AV) : Vars :=
  [some (.obj 0), some (.int deep), k, none, none, some (.int a), some (.int b), some (iv inner), some (.obj wl), some (.int strange), n, t, g, f, m, none, none, none, none, none]
/-- one level is made -/
theorem body1 {deep a b : Int} {k strange : Nat} {inner : Option (List UInt8)} {vn vt vg vf vm : Option AV} {Q : Fl → Vars → AH → Prop} (hk : k ≤ 3) (hx : xs.length ≤ 63) (g : G xs wl ls σ) (ch : Chain ls inner strange) (hl : ls.length = k)
    (q : ∀ w inner' strange' n t g f m s, G xs wl (w :: ls) s → Chain (w :: ls) inner' strange' → ((k : Int) + 1 = deep → strange' = 0) → Q .next (lw deep a b (some (.int k)) inner' wl strange' n t g f m) s) :
    RX (xSeq (xAsgC 1 (eIf (bCmp mLt (eBin mAdd (eVar 2) (eConst (.int 2))) (eCall ([(eVar 0)] ++ []) fLen)) (eBin gItem (eVar 0) (eBin mAdd (eVar 2) (eConst (.int 2)))) (eBin mAdd (eBin mAdd (eBin mAdd (eVar 5) (eBin mMul (eVar 6) (eVar 2))) (eBin mMul (eConst (.int 40)) (eVar 2))) (eConst (.int 7))))) (xSeq (xAsg 10 (eBin gItem (eList [(eBin mSub (eBin mMod (eBin mFDiv (eCell 1) (eConst (.int 8))) (eBin mPow (eConst (.int 2)) (eConst (.int 32)))) (eBin mPow (eConst (.int 2)) (eConst (.int 31)))), (eConst (.int 5))]) (eIf (bCmp mEq (eBin mMod (eCell 1) (eConst (.int 11))) (eConst (.int 0))) (eBin mMod (eBin mFDiv (eCell 1) (eConst (.int 7))) (eConst (.int 2))) (eConst (.int 0))))) (xSeq (xAsg 11 (eIf (bCmp mEq (eBin mMod (eBin mFDiv (eCell 1) (eConst (.int 3))) (eConst (.int 4))) (eConst (.int 3))) (eConst .none) (eMeth (eConst (.str "")) selStr ([(eLetters 1)] ++ []) fJoin))) (xSeq (xAsg 12 (eIf (bCmp mEq (eBin mMod (eCell 1) (eConst (.int 6))) (eConst (.int 5))) (eConst (.int 0)) (eBin mMod (eCell 1) (eBin mPow (eConst (.int 2)) (eConst (.int 64)))))) (xSeq (xAsg 13 (eBin mMod (eBin mAdd (eBin mAdd (eBin mFDiv (eCell 1) (eConst (.int 2))) (eVar 6)) (eVar 2)) (eConst (.int 4)))) (xSeq (xAsg 14 (eCall ([(eVar 10), (eVar 11), (eVar 12), (eVar 7), (eCmp mEq (eBin mMod (eCell 1) (eConst (.int 2))) (eConst (.int 0))), (eVar 13), (eBin gItem (eList [(eConst (.int 0)), (eConst (.int 7)), (eConst (.int 64))]) (eBin mMod (eBin mAdd (eBin mFDiv (eVar 6) (eConst (.int 4))) (eVar 2)) (eConst (.int 3))))] ++ []) f_law_made)) (xSeq (xExpr (eMeth (eVar 8) selList ([(eTup [(eVar 10), (eVar 11), (eVar 12), (eVar 7), (eVar 13), (eVar 9)])] ++ []) fAppend)) (xSeq (xAsg 9 (eIf (bCmp mLt (eVar 2) (eBin mSub (eVar 1) (eConst (.int 1)))) (eBin mMod (eBin mFDiv (eCell 1) (eConst (.int 13))) (eConst (.int 4))) (eConst (.int 0)))) (xSeq (xAsg 7 (eBin mAdd (eVar 14) (eBin fRep (eConst (.bytes [5])) (eVar 9)))) xNil)))))))))
      (lw deep a b (some (.int k)) inner wl strange vn vt vg vf vm) σ Q := by
  have hil := ch.len
  refine RX.seq (RX.asgC ((e_x hk hx g.s0 rfl rfl rfl rfl).mono ?_))
  rintro _ s0 ⟨rfl, X, rfl⟩
  refine ⟨g.c1, SK.next (RX.seq (RX.asg ?_))⟩
  obtain ⟨g1, hX⟩ := g.cell (some (.int X))
  generalize s0.set 1 (.cell (some (.int X))) = s1 at g1 hX ⊢
  refine (e_number hX).mono ?_
  rintro _ s2 ⟨k2, number, rfl, hn1, hn2⟩
  have hX := k2.cellX hX
  have g2 := g1.kp k2
  refine ⟨of_decide_eq_true rfl, SK.next (RX.seq (RX.asg ((e_text hX).mono ?_)))⟩
  rintro _ s3 ⟨k3, text, rfl, ht, htl⟩
  have hX := k3.cellX hX
  have g3 := g2.kp k3
  refine ⟨of_decide_eq_true rfl, SK.next (RX.seq (RX.asg ((e_great hX).mono ?_)))⟩
  rintro _ s3 ⟨rfl, great, rfl, hg1, hg2⟩
  refine ⟨of_decide_eq_true rfl, SK.next (RX.seq (RX.asg ((e_finish (b := b) (k := (k : Int)) hX rfl rfl).mono ?_)))⟩
  rintro _ s3 ⟨rfl, finish, rfl, hf⟩
  refine ⟨of_decide_eq_true rfl, SK.next (RX.seq (RX.asg (RE.call (RL.app ?_))))⟩
  refine RL.cons (RE.var rfl (RL.cons (RE.var rfl (RL.cons (RE.var rfl (RL.cons (RE.var rfl ?_)))))))
  refine RL.cons (RE.cmp (RE.md (by decide) (RE.cell hX ⟨_, rfl, RE.const (RC.eq rfl ?_)⟩)))
  refine RL.cons (RE.var rfl (RL.cons ((e_size (b := b) (k := (k : Int)) rfl rfl).mono ?_)))
  rintro _ s4 ⟨k4, size, rfl, hsz⟩
  have hX := k4.cellX hX
  have g4 := g3.kp k4
  refine RL.nil (RL.nil ?_)
  refine RF.mono (made_spec (σ := s4) (number := number) (great := great) (text := text) (inner := inner) (finish := finish) (size := size) hn1 hn2 hg1 hg2 ht (by lia) hf hsz) ?_
  rintro _ s5 ⟨D, rfl, k5, lay, hD⟩
  have k5 : Kp s4 s5 := k5
  have hX := k5.cellX hX
  have g5 := g4.kp k5
  obtain ⟨ix, hwl, _⟩ := g5.idx
  refine ⟨of_decide_eq_true rfl, SK.next (RX.seq (RX.expr (RE.meth (RE.var rfl ⟨true, sel_list hwl, RL.app ?_⟩))))⟩
  refine RL.cons (RE.tup ?_)
  refine RL.cons (RE.var rfl (RL.cons (RE.var rfl (RL.cons (RE.var rfl (RL.cons (RE.var rfl (RL.cons (RE.var rfl (RL.cons (RE.var rfl (RL.nil ?_)))))))))))) 
  refine RL.nil (RL.nil ?_)
  have g6 := g5.kp (Kp.app [AO.tup [.int number, tv text, .int great, iv inner, .int finish, .int strange]])
  have hX6 : (s5 ++ [AO.tup [.int number, tv text, .int great, iv inner, .int finish, .int strange]])[1]? = some (.cell (some (.int X))) := get_app hX
  obtain ⟨s7, e7, g7, k7⟩ := g6.push (w := ⟨number, text, great, inner, finish, strange, D⟩) get_end (by lia)
  refine RF.some e7 ⟨rfl, SK.next (RX.seq (RX.asg ?_))⟩
  have hne : (1 : Nat) ≠ wl := fun e => by rw [← e, hX] at hwl; cases hwl
  have hX7 := k7 1 _ hne hX6
  refine (e_strange (deep := deep) (k := k) hX7 rfl rfl).mono ?_
  rintro _ s7 ⟨rfl, st, rfl, hst, hst0⟩
  refine ⟨of_decide_eq_true rfl, SK.next (RX.seq (RX.asg (RE.bin (RE.var rfl (RE.bin (RE.const (RE.var rfl (RS.some (rep_bytes (by lia)) ?_))))))))⟩
  refine add_bytes (by rw [List.length_replicate]; lia) ⟨of_decide_eq_true rfl, SK.next (RX.nil ?_)⟩
  refine q ⟨number, text, great, inner, finish, strange, D⟩ (some (D ++ List.replicate st 5)) st _ _ _ _ _ s7 g7 ⟨⟨lay, hn1, hn2, hg1, hg2, ht, hf, ?_⟩, hst, rfl, ch⟩ hst0
  show D.length ≤ ilen inner + 182
  lia
theorem loop1 {deep : Nat} {a b : Int} {Q : Fl → Vars → AH → Prop} (hd : deep ≤ 3) (hx : xs.length ≤ 63)
    (q : ∀ ls inner k n t g f m s, ls.length = deep → G xs wl ls s → Chain ls inner 0 → Q .next (lw deep a b k inner wl 0 n t g f m) s) (hd1 : 1 ≤ deep) (fu : Nat) :
    ∀ (r : Nat) (ls : List Lv) (inner : Option (List UInt8)) (strange : Nat) (k vn vt vg vf vm : Option AV) (σ : AH), r + ls.length = deep → G xs wl ls σ → Chain ls inner strange → (ls.length = deep → strange = 0) →
      RX (forF 2 (xSeq (xAsgC 1 (eIf (bCmp mLt (eBin mAdd (eVar 2) (eConst (.int 2))) (eCall ([(eVar 0)] ++ []) fLen)) (eBin gItem (eVar 0) (eBin mAdd (eVar 2) (eConst (.int 2)))) (eBin mAdd (eBin mAdd (eBin mAdd (eVar 5) (eBin mMul (eVar 6) (eVar 2))) (eBin mMul (eConst (.int 40)) (eVar 2))) (eConst (.int 7))))) (xSeq (xAsg 10 (eBin gItem (eList [(eBin mSub (eBin mMod (eBin mFDiv (eCell 1) (eConst (.int 8))) (eBin mPow (eConst (.int 2)) (eConst (.int 32)))) (eBin mPow (eConst (.int 2)) (eConst (.int 31)))), (eConst (.int 5))]) (eIf (bCmp mEq (eBin mMod (eCell 1) (eConst (.int 11))) (eConst (.int 0))) (eBin mMod (eBin mFDiv (eCell 1) (eConst (.int 7))) (eConst (.int 2))) (eConst (.int 0))))) (xSeq (xAsg 11 (eIf (bCmp mEq (eBin mMod (eBin mFDiv (eCell 1) (eConst (.int 3))) (eConst (.int 4))) (eConst (.int 3))) (eConst .none) (eMeth (eConst (.str "")) selStr ([(eLetters 1)] ++ []) fJoin))) (xSeq (xAsg 12 (eIf (bCmp mEq (eBin mMod (eCell 1) (eConst (.int 6))) (eConst (.int 5))) (eConst (.int 0)) (eBin mMod (eCell 1) (eBin mPow (eConst (.int 2)) (eConst (.int 64)))))) (xSeq (xAsg 13 (eBin mMod (eBin mAdd (eBin mAdd (eBin mFDiv (eCell 1) (eConst (.int 2))) (eVar 6)) (eVar 2)) (eConst (.int 4)))) (xSeq (xAsg 14 (eCall ([(eVar 10), (eVar 11), (eVar 12), (eVar 7), (eCmp mEq (eBin mMod (eCell 1) (eConst (.int 2))) (eConst (.int 0))), (eVar 13), (eBin gItem (eList [(eConst (.int 0)), (eConst (.int 7)), (eConst (.int 64))]) (eBin mMod (eBin mAdd (eBin mFDiv (eVar 6) (eConst (.int 4))) (eVar 2)) (eConst (.int 3))))] ++ []) f_law_made)) (xSeq (xExpr (eMeth (eVar 8) selList ([(eTup [(eVar 10), (eVar 11), (eVar 12), (eVar 7), (eVar 13), (eVar 9)])] ++ []) fAppend)) (xSeq (xAsg 9 (eIf (bCmp mLt (eVar 2) (eBin mSub (eVar 1) (eConst (.int 1)))) (eBin mMod (eBin mFDiv (eCell 1) (eConst (.int 13))) (eConst (.int 4))) (eConst (.int 0)))) (xSeq (xAsg 7 (eBin mAdd (eVar 14) (eBin fRep (eConst (.bytes [5])) (eVar 9)))) xNil)))))))))
        (r + (fu + 1)) (.rng ls.length r 1)) (lw deep a b k inner wl strange vn vt vg vf vm) σ Q := by
  intro r
  induction r with
  | zero =>
    intro ls inner strange k vn vt vg vf vm σ hr g ch h0
    obtain rfl := h0 (by lia)
    refine RX.forE ?_ (q ls inner k vn vt vg vf vm σ (by lia) g ch)
    unfold nextIt
    exact if_pos (by decide)
  | succ r ih =>
    intro ls inner strange k vn vt vg vf vm σ hr g ch h0
    rw [show r + 1 + (fu + 1) = (r + (fu + 1)) + 1 by lia]
    refine RX.forS (a := .int ls.length) (J := .rng ((ls.length : Int) + 1) (((r + 1 : Nat) : Int) - 1) 1) ?_ (of_decide_eq_true rfl) ?_
    · unfold nextIt
      exact if_neg (by lia)
    refine body1 (k := ls.length) (by lia) hx g ch rfl fun w inner' strange' n t gg f m s g' ch' h' => ?_
    have := ih (w :: ls) inner' strange' (some (.int ls.length)) n t gg f m s (by rw [List.length_cons]; lia) g' ch' (fun e => h' (by rw [List.length_cons] at e; lia))
    rw [List.length_cons, show ((ls.length + 1 : Nat) : Int) = (ls.length : Int) + 1 from rfl] at this
    rw [show (((r + 1 : Nat) : Int) - 1) = (r : Int) by lia]
    exact LK.next this
end
end Mine
set_option maxRecDepth 100000
namespace Mine
section
variable {σ : AH} {vars : Vars} {xs : List Int} {wl : Nat} {ls : List Lv}
theorem ne_lists {i j : Nat} {w1 w2 : Bool} {a b c d : Int} (h1 : σ[i]? = some (.list w1 [.int a, .int b])) (h2 : σ[j]? = some (.list w2 [.int c, .int d])) : cNe (.obj i) (.obj j) σ = some (([a, b] : List Int) != [c, d]) := by
  unfold cNe
  dsimp only
  rw [h1, h2]
  rfl
theorem iRange_eq {k : Nat} {n : Int} (hv : (vars[k]?).join = some (.int n)) (h0 : 0 ≤ n) (h1 : n ≤ 1000) : iRange [eVar k] vars σ = some (.rng 0 n 1, σ) := by
  have e : evs [eVar k] vars σ = some ([.int n], σ) := by
    unfold evs evs eVar
    rw [hv]
    rfl
  unfold iRange
  rw [e]
  exact if_pos ⟨h0, h1⟩
noncomputable abbrev lz (deep a b : Int) (k : Option AV) (wo : Nat) (O : List UInt8) (inner : Option (List UInt8)) (wl : Nat) (n t g f m : Option AV) (start many : Int) (v17 v18 v19 : Option AV) : Vars :=
  [some (.obj 0), some (.int deep), k, some (.obj wo), some (.bytes O), some (.int a), some (.int b), some (iv inner), some (.obj wl), some (.int (0 : Nat)), n, t, g, f, m, some (.int start), some (.int many), v17, v18, v19]
/-- one level is looked at -/
theorem body2 {deep k p : Nat} {a b : Int} {w : Lv} {r done : List Lv} {i : Option (List UInt8)} {st wo : Nat} {O P T : List UInt8} {inn : Option (List UInt8)} {n t gg f m v17 v18 v19 : Option AV} {Q : Fl → Vars → AH → Prop}
    (g : G xs wl ls σ) (hls : ls = done ++ (w :: r)) (hdone : done.length = k) (hdeep : ls.length = deep) (hd3 : deep ≤ 3) (ch : Chain (w :: r) i st) (ho : σ[wo]? = some (.ba O)) (hO : O = P ++ (w.D ++ T)) (hP : P.length = p) (hOl : O.length ≤ 50000)
    (q : ∀ start many v17 v18 v19 s, Kp σ s → (∀ w' r', r = w' :: r' → ∃ P' T', O = P' ++ (w'.D ++ T') ∧ start = (P'.length : Int) ∧ many = (w'.D.length : Int)) → Q .next (lz deep a b (some (.int k)) wo O inn wl n t gg f m start many v17 v18 v19) s) :
    RX (xSeq (xAsg 17 (eBin gItem (eVar 8) (eBin mSub (eBin mSub (eVar 1) (eConst (.int 1))) (eVar 2)))) (xSeq (xAsg 18 (eCall ([(eVar 3), (eVar 15), (eVar 16), (eVar 17)] ++ []) f_law_level)) (xSeq (xAsg 19 (eCall ([(eCut (eVar 3) (some (eVar 15)) (some (eBin mAdd (eVar 15) (eVar 16))))] ++ []) fBytes)) (xSeq (xIf (bOr (bCmp mIs (eVar 18) (eConst .none)) (bCmp mNe (eCall ([(eVar 19), (eConst (.int 0)), (eVar 16), (eVar 17)] ++ []) f_law_level) (eIf (bCmp mNe (eVar 18) (eList [(eConst (.int 0)), (eConst (.int 0))])) (eList [(eBin mSub (eBin gItem (eVar 18) (eConst (.int 0))) (eVar 15)), (eBin gItem (eVar 18) (eConst (.int 1)))]) (eVar 18)))) (xSeq (xRet (eConst (.bool false))) xNil) xNil) (xSeq (xUnpS [15, 16] (eTup [(eBin gItem (eVar 18) (eConst (.int 0))), (eBin mSub (eBin gItem (eVar 18) (eConst (.int 1))) (eBin gItem (eVar 17) (eConst (.int 5))))])) xNil)))))
      (lz deep a b (some (.int k)) wo O inn wl n t gg f m p w.D.length v17 v18 v19) σ Q := by
  obtain ⟨hw, hst, hi, ch'⟩ := ch
  obtain ⟨ix, hwl, hixl, hall⟩ := g.idx
  have hkd : k < deep := by rw [← hdeep, hls, List.length_append, List.length_cons]; lia
  have hrev : ls.reverse[deep - 1 - k]? = some w := by
    rw [List.getElem?_reverse (by lia), hdeep, show deep - 1 - (deep - 1 - k) = k by lia, hls, ← hdone, List.getElem?_append_right (Nat.le_refl _)]
    simp
  obtain ⟨kk, hkk, hkw⟩ := hall _ _ hrev
  have hDO : p + w.D.length ≤ O.length := by rw [hO]; simp; lia
  refine RX.seq (RX.asg (RE.bin (RE.var rfl (RE.bin (RE.bin (RE.var rfl (RE.const (RS.pure2 rfl (RE.var rfl (RS.pure2 rfl ?_))))))))))
  rw [show (deep : Int) - 1 - (k : Int) = ((deep - 1 - k : Nat) : Int) by lia]
  refine RS.some (item_list (x := .obj kk) hwl (by rw [List.getElem?_map, hkk]; rfl) (by lia)) ⟨of_decide_eq_true rfl, SK.next (RX.seq (RX.asg (RE.call (RL.app ?_))))⟩
  refine RL.cons (RE.var rfl (RL.cons (RE.var rfl (RL.cons (RE.var rfl (RL.cons (RE.var rfl (RL.nil (RL.nil ?_)))))))))
  obtain ⟨R, oe, s0, s1, s2, s3, hT, hF, hoe⟩ := hw.lay
  obtain ⟨ww, hin⟩ := hT.inn.w
  have Oc : Oct (.obj wo) p w.D σ := ⟨⟨O, P, T, by unfold lends; dsimp only; rw [ho], hO, hP, by lia⟩, rfl⟩
  refine RF.mono (level_spec (p := p) (D := w.D) Oc hkw hT hF hoe hin (by lia) hw.f hw.n1 hw.n2 hw.g1 hw.g2 hw.t) ?_
  rintro _ t1 ⟨k1, j1, a1, c1, rfl, hj1, row1⟩
  have Oc1 := Oc.kp k1
  refine ⟨of_decide_eq_true rfl, SK.next (RX.seq (RX.asg (RE.call (RL.app (RL.cons ?_)))))⟩
  obtain ⟨rr, t2, e2, k2, tb2⟩ := cut_oct (X := w.D) (k := w.D.length) (q := p) (m := p + w.D.length) Oc1 ⟨[], [], by simp, by simp⟩ rfl rfl
  refine RE.cut (RE.var rfl (RE.optSome (RE.var rfl (RE.optSome (RE.bin (RE.var rfl (RE.var rfl (RS.pure2 rfl ?_))))))))
  refine ⟨some p, some (p + w.D.length), ?_, ?_, RS.some e2 (RL.nil (RL.nil ?_))⟩
  · show (if (0 : Int) ≤ (p : Int) then some (some (p : Int).toNat) else none) = _
    rw [if_pos (by lia), Int.toNat_natCast]
  · show (if (0 : Int) ≤ (p : Int) + (w.D.length : Int) then some (some ((p : Int) + (w.D.length : Int)).toNat) else none) = _
    rw [if_pos (by lia)]; rfl
  refine RF.some (a := .bytes w.D) (s := t2) ?_ ⟨of_decide_eq_true rfl, SK.next (RX.seq (RX.guard ?_))⟩
  · show fBytes [rr] t2 = _
    unfold fBytes
    dsimp only
    rw [tb2.lends]
    exact if_pos (by lia)
  have k2 := k1.trans k2
  have hj2 : t2[j1]? = some (.list true [.int a1, .int c1]) := by
    have : Kp t1 t2 := by assumption
    exact this _ _ hj1
  refine RB.or (RB.cmp (RE.var rfl (RE.const (RC.s rfl (IK.f ?_)))))
  refine RB.cmp (RE.call (RL.app ?_))
  refine RL.cons (RE.var rfl (RL.cons (RE.const (RL.cons (RE.var rfl (RL.cons (RE.var rfl (RL.nil (RL.nil ?_)))))))))
  have Oc2 : Oct (.bytes w.D) 0 w.D t2 := ⟨⟨w.D, [], [], rfl, by simp, rfl, by lia⟩, rfl⟩
  refine RF.mono (level_spec (p := 0) (D := w.D) Oc2 (k2 _ _ hkw) hT hF hoe hin (by lia) hw.f hw.n1 hw.n2 hw.g1 hw.g2 hw.t) ?_
  rintro _ t3 ⟨k3, j3, a3, c3, rfl, hj3, row3⟩
  have k3' := k2.trans k3
  have hj13 := k3 _ _ hj2
  -- the last step
  have last : ∀ t4, Kp t3 t4 → SK (xSeq (xUnpS [15, 16] (eTup [(eBin gItem (eVar 18) (eConst (.int 0))), (eBin mSub (eBin gItem (eVar 18) (eConst (.int 1))) (eBin gItem (eVar 17) (eConst (.int 5))))])) xNil) Q .next (lz deep a b (some (.int k)) wo O inn wl n t gg f m p w.D.length (some (.obj kk)) (some (.obj j1)) (some (.bytes w.D))) t4 := by
    intro t4 k4
    have k4' := k3'.trans k4
    have hj4 := k4 _ _ hj13
    refine SK.next (RX.seq (RX.unpS (RE.tup ?_)))
    refine RL.cons (RE.bin (RE.var rfl (RE.const (RS.some (item_list (k := 0) hj4 rfl (by decide)) ?_))))
    refine RL.cons (RE.bin (RE.bin (RE.var rfl (RE.const (RS.some (item_list (k := 1) hj4 rfl (by decide)) ?_)))))
    refine RE.bin (RE.var rfl (RE.const (RS.some (item_tup (k := 5) (k4' _ _ hkw) rfl (by decide)) (RS.pure2 rfl (RL.nil ?_)))))
    refine ⟨[.int a1, .int (c1 - (w.strange : Int))], lz deep a b (some (.int k)) wo O inn wl n t gg f m a1 (c1 - w.strange) (some (.obj kk)) (some (.obj j1)) (some (.bytes w.D)), by unfold itemsOf; dsimp only; rw [get_end], rfl, rfl, SK.next (RX.nil ?_)⟩
    refine q a1 (c1 - w.strange) _ _ _ _ (k4'.trans (Kp.app _)) fun w' r' er => ?_
    subst er
    obtain ⟨_, hst', hin', _⟩ := ch'
    rw [hin'] at row1
    obtain ⟨ra, rc, pre, post, eD, el⟩ := row1
    refine ⟨P ++ (pre ++ leBytes 4 ((w'.D ++ List.replicate w.strange 5).length : Int)), List.replicate w.strange 5 ++ (post ++ T), ?_, ?_, ?_⟩
    · rw [hO, eD]
      simp only [List.append_assoc]
    · rw [ra]
      have hDl := congrArg List.length eD
      simp only [List.length_append, leBytes_length, List.length_replicate] at hDl el ⊢
      lia
    · rw [rc]
      simp only [List.length_append, List.length_replicate]
      lia
  generalize hB : (fun (bb : Bool) (s : AH) => bb = false ∧ SK (xSeq (xUnpS [15, 16] (eTup [(eBin gItem (eVar 18) (eConst (.int 0))), (eBin mSub (eBin gItem (eVar 18) (eConst (.int 1))) (eBin gItem (eVar 17) (eConst (.int 5))))])) xNil) Q .next (lz deep a b (some (.int k)) wo O inn wl n t gg f m p w.D.length (some (.obj kk)) (some (.obj j1)) (some (.bytes w.D))) s) = B
  have hB2 : ∀ t4, Kp t3 t4 → B false t4 := fun t4 k4 => by rw [← hB]; exact ⟨rfl, last t4 k4⟩
  show RE _ _ t3 _
  refine RE.ite (RB.cmp (RE.var rfl (RE.list ?_)))
  refine RL.cons (RE.const (RL.cons (RE.const (RL.nil ?_))))
  refine RC.ne (ne_lists (get_app hj13) get_end) ?_
  have k5 : Kp t3 (t3 ++ [AO.list true [.int 0, .int 0]]) := Kp.app _
  generalize t3 ++ [AO.list true [.int 0, .int 0]] = t5 at k5 ⊢
  have done' : ∀ {x y : List Int} {t6 : AH}, Kp t3 t6 → x = y → B (x != y) t6 := fun {x y t6} k6 e => by
    have : (x != y) = false := by simpa using e
    rw [this]
    exact hB2 t6 k6
  cases hin1 : w.inner with
  | none =>
    rw [hin1] at row1 row3
    obtain ⟨rfl, rfl⟩ := row1
    obtain ⟨rfl, rfl⟩ := row3
    refine IK.nbf rfl (RE.var rfl ?_)
    refine RC.ne (ne_lists (k5 _ _ hj3) (k5 _ _ hj13)) ?_
    have := done' k5 (rfl : ([0, 0] : List Int) = [0, 0])
    rw [← hB] at this
    exact this
  | some x =>
    rw [hin1] at row1 row3
    obtain ⟨ra1, rc1, hat1⟩ := row1
    obtain ⟨ra3, rc3, hat3⟩ := row3
    have hl := hat1.le.1
    refine IK.nbt (fun e => ?_) (RE.list ?_)
    · have e1 : a1 = 0 := (List.cons.inj e).1
      lia
    refine RL.cons (RE.bin (RE.bin (RE.var rfl (RE.const (RS.some (item_list (k := 0) (k5 _ _ hj13) rfl (by decide)) (RE.var rfl (RS.pure2 rfl ?_)))))))
    refine RL.cons (RE.bin (RE.var rfl (RE.const (RS.some (item_list (k := 1) (k5 _ _ hj13) rfl (by decide)) (RL.nil ?_)))))
    refine RC.ne (ne_lists (get_app (k5 _ _ hj3)) get_end) ?_
    have := done' (x := [a3, c3]) (y := [a1 - (p : Int), c1]) (k5.trans (Kp.app [AO.list true [.int (a1 - (p : Int)), .int c1]])) (by
      rw [ra3, ra1, rc3, rc1]
      congr 1
      lia)
    rw [← hB] at this
    exact this
theorem loop2 {deep : Nat} {a b : Int} {wo : Nat} {O : List UInt8} {inn : Option (List UInt8)} {n t gg f m : Option AV} {Q : Fl → Vars → AH → Prop} (hdeep : ls.length = deep) (hd3 : deep ≤ 3) (hOl : O.length ≤ 50000)
    (q : ∀ k start many v17 v18 v19 s, s[wo]? = some (.ba O) → Q .next (lz deep a b k wo O inn wl n t gg f m start many v17 v18 v19) s) (fu : Nat) :
    ∀ (rest done : List Lv) (i : Option (List UInt8)) (st : Nat) (k : Option AV) (start many : Int) (v17 v18 v19 : Option AV) (σ : AH), ls = done ++ rest → G xs wl ls σ → Chain rest i st → σ[wo]? = some (.ba O) →
      (∀ w' r', rest = w' :: r' → ∃ P' T', O = P' ++ (w'.D ++ T') ∧ start = (P'.length : Int) ∧ many = (w'.D.length : Int)) →
      RX (forF 2 (xSeq (xAsg 17 (eBin gItem (eVar 8) (eBin mSub (eBin mSub (eVar 1) (eConst (.int 1))) (eVar 2)))) (xSeq (xAsg 18 (eCall ([(eVar 3), (eVar 15), (eVar 16), (eVar 17)] ++ []) f_law_level)) (xSeq (xAsg 19 (eCall ([(eCut (eVar 3) (some (eVar 15)) (some (eBin mAdd (eVar 15) (eVar 16))))] ++ []) fBytes)) (xSeq (xIf (bOr (bCmp mIs (eVar 18) (eConst .none)) (bCmp mNe (eCall ([(eVar 19), (eConst (.int 0)), (eVar 16), (eVar 17)] ++ []) f_law_level) (eIf (bCmp mNe (eVar 18) (eList [(eConst (.int 0)), (eConst (.int 0))])) (eList [(eBin mSub (eBin gItem (eVar 18) (eConst (.int 0))) (eVar 15)), (eBin gItem (eVar 18) (eConst (.int 1)))]) (eVar 18)))) (xSeq (xRet (eConst (.bool false))) xNil) xNil) (xSeq (xUnpS [15, 16] (eTup [(eBin gItem (eVar 18) (eConst (.int 0))), (eBin mSub (eBin gItem (eVar 18) (eConst (.int 1))) (eBin gItem (eVar 17) (eConst (.int 5))))])) xNil)))))
        (rest.length + (fu + 1)) (.rng done.length rest.length 1)) (lz deep a b k wo O inn wl n t gg f m start many v17 v18 v19) σ Q := by
  intro rest
  induction rest with
  | nil =>
    intro done i st k start many v17 v18 v19 σ hls g ch ho hs
    refine RX.forE ?_ (q _ _ _ _ _ _ _ ho)
    unfold nextIt
    exact if_pos (by decide)
  | cons w r ih =>
    intro done i st k start many v17 v18 v19 σ hls g ch ho hs
    obtain ⟨P, T, hO, rfl, rfl⟩ := hs w r rfl
    rw [List.length_cons, show r.length + 1 + (fu + 1) = (r.length + (fu + 1)) + 1 by lia]
    refine RX.forS (a := .int done.length) (J := .rng ((done.length : Int) + 1) (((r.length + 1 : Nat) : Int) - 1) 1) ?_ (of_decide_eq_true rfl) ?_
    · unfold nextIt
      exact if_neg (by lia)
    refine body2 (k := done.length) (p := P.length) g hls rfl hdeep hd3 ch ho hO rfl hOl fun start' many' v17' v18' v19' s k' hs' => ?_
    have := ih (done ++ [w]) w.inner w.strange (some (.int done.length)) start' many' v17' v18' v19' s (by rw [hls]; simp) (g.kp k') ch.2.2.2 (k' _ _ ho) hs'
    rw [List.length_append, List.length_singleton, show ((done.length + 1 : Nat) : Int) = (done.length : Int) + 1 from rfl] at this
    rw [show (((r.length + 1 : Nat) : Int) - 1) = (r.length : Int) by lia]
    exact LK.next this
theorem first_two (xs : List Int) : ∃ a b : Int, cutL (cutL (xs.map AV.int) none (some 2) ++ [.int 0, .int 0]) none (some 2) = [.int a, .int b] := by
  match xs with
  | [] => exact ⟨0, 0, rfl⟩
  | [x] => exact ⟨x, 0, rfl⟩
  | x :: y :: _ => exact ⟨x, y, rfl⟩
/-- law, whole -/
theorem law_spec (xs : List Int) (hx : xs.length ≤ 63) : RX x_law (startV fi_law [.obj 0]) [.list false (xs.map .int), .cell none] fun fl _ _ => fl = .ret (.bool true) := by
  show RX x_law [some (.obj 0), none, none, none, none, none, none, none, none, none, none, none, none, none, none, none, none, none, none, none] _ _
  have s0 : ([AO.list false (xs.map .int), .cell none] : AH)[0]? = some (.list false (xs.map .int)) := rfl
  have c0 : ([AO.list false (xs.map .int), .cell none] : AH)[1]? = some (.cell none) := rfl
  generalize [AO.list false (xs.map .int), .cell none] = σ0 at s0 c0
  unfold x_law
  obtain ⟨a, b, hab⟩ := first_two xs
  refine RX.seq (RX.unp (RE.cut (RE.bin (RE.cut (RE.var rfl (RE.optNone (RE.optSome (RE.const ⟨none, some 2, rfl, rfl, ?_⟩))))))))
  have hc1 : (cutL (xs.map AV.int) none (some 2)).length ≤ 2 := by unfold cutL; simp; lia
  refine RS.some (a := .obj σ0.length) (s := σ0 ++ [.list true (cutL (xs.map .int) none (some 2))]) ?_ ?_
  · unfold gCut
    dsimp only
    rw [s0]
    exact if_pos (by simp; lia)
  have k1 : Kp σ0 (σ0 ++ [.list true (cutL (xs.map .int) none (some 2))]) := Kp.app _
  have h1 : (σ0 ++ [AO.list true (cutL (xs.map .int) none (some 2))])[σ0.length]? = some (.list true (cutL (xs.map .int) none (some 2))) := get_end
  generalize σ0 ++ [AO.list true (cutL (xs.map .int) none (some 2))] = σ1 at k1 h1 ⊢
  refine RE.list (RL.cons (RE.const (RL.cons (RE.const (RL.nil ?_)))))
  refine RS.some (a := .obj (σ1 ++ [AO.list true [.int 0, .int 0]]).length) (s := σ1 ++ [AO.list true [.int 0, .int 0]] ++ [AO.list true (cutL (xs.map .int) none (some 2) ++ [.int 0, .int 0])]) ?_ ?_
  · unfold fCat
    dsimp only
    rw [get_app h1, get_end]
    exact if_pos (by simp; lia)
  have k2 := (k1.trans (Kp.app [AO.list true [.int 0, .int 0]])).trans (Kp.app [AO.list true (cutL (xs.map .int) none (some 2) ++ [.int 0, .int 0])])
  have h2 : (σ1 ++ [AO.list true [.int 0, .int 0]] ++ [AO.list true (cutL (xs.map .int) none (some 2) ++ [.int 0, .int 0])])[(σ1 ++ [AO.list true [.int 0, .int 0]]).length]? = some (.list true (cutL (xs.map .int) none (some 2) ++ [.int 0, .int 0])) := get_end
  generalize (σ1 ++ [AO.list true [.int 0, .int 0]]).length = j2 at h2 ⊢
  generalize σ1 ++ [AO.list true [.int 0, .int 0]] ++ [AO.list true (cutL (xs.map .int) none (some 2) ++ [.int 0, .int 0])] = σ2 at k2 h2 ⊢
  refine RE.optNone (RE.optSome (RE.const ⟨none, some 2, rfl, rfl, ?_⟩))
  refine RS.some (a := .obj σ2.length) (s := σ2 ++ [.list true [.int a, .int b]]) ?_ ?_
  · unfold gCut
    dsimp only
    rw [h2]
    dsimp only
    rw [hab]
    exact if_pos (by simp; lia)
  refine ⟨[.int a, .int b], [some (.obj 0), none, none, none, none, some (.int a), some (.int b), none, none, none, none, none, none, none, none, none, none, none, none, none], by unfold itemsOf; dsimp only; rw [get_end], rfl, rfl, ?_⟩
  have k3 := k2.trans (Kp.app [AO.list true [.int a, .int b]])
  generalize σ2 ++ [AO.list true [.int a, .int b]] = σ3 at k3 ⊢
  clear k1 k2 h1 h2 hab hc1
  obtain ⟨d3, hd3, hd3l⟩ := fmod_nat a (d := 3) (by decide)
  refine SK.next (RX.seq (RX.asg (RE.bin (RE.const (RE.md (by decide) (RE.var rfl ⟨a, rfl, RS.pure2 rfl ⟨of_decide_eq_true rfl, SK.next ?_⟩⟩))))))
  have hdeep : (1 : Int) + a.fmod 3 = ((1 + d3 : Nat) : Int) := by rw [show a.fmod 3 = (d3 : Int) from hd3]; lia
  rw [hdeep]
  generalize hde : 1 + d3 = deep
  have hd1 : 1 ≤ deep := by lia
  have hdle : deep ≤ 3 := by lia
  refine RX.seq (RX.unpS (RE.tup (RL.cons (RE.bin (RE.list ?_)))))
  refine RL.cons (RE.const (RL.cons (RE.const (RL.nil ?_))))
  refine RE.dm (by decide) (by decide) (by decide) (RE.var rfl ⟨a, rfl, ?_⟩)
  obtain ⟨d2, hd2, hd2l⟩ := fmod_nat (a.fdiv 3) (d := 2) (by decide)
  rw [show (a.fdiv 3).fmod 2 = (d2 : Int) from hd2]
  obtain ⟨inner0, hin0, hinn⟩ : ∃ i : Option (List UInt8), ([AV.none, .bytes []])[d2]? = some (iv i) ∧ (i = none ∨ i = some []) := by
    have : d2 = 0 ∨ d2 = 1 := by lia
    rcases this with rfl | rfl
    · exact ⟨none, rfl, .inl rfl⟩
    · exact ⟨some [], rfl, .inr rfl⟩
  refine RS.some (item_list get_end hin0 (by lia)) ?_
  have k4 := k3.trans (Kp.app [AO.list true [.none, .bytes []]])
  generalize σ3 ++ [AO.list true [.none, .bytes []]] = σ4 at k4 ⊢
  refine RL.cons (RE.list (RL.nil ?_))
  have hwl : (σ4 ++ [AO.list true []])[σ4.length]? = some (.list true []) := get_end
  have k5 := k4.trans (Kp.app [AO.list true []])
  generalize hwln : σ4.length = wl at hwl ⊢
  generalize σ4 ++ [AO.list true []] = σ5 at k5 hwl ⊢
  refine RL.cons (RE.const (RL.nil ?_))
  refine ⟨[iv inner0, .obj wl, .int 0], lw deep a b none inner0 wl 0 none none none none none, by unfold itemsOf; dsimp only; rw [get_end], rfl, rfl, ?_⟩
  have k6 := k5.trans (Kp.app [AO.tup [iv inner0, .obj wl, .int 0]])
  have hwl6 : (σ5 ++ [AO.tup [iv inner0, .obj wl, .int 0]])[wl]? = some (.list true []) := get_app hwl
  generalize σ5 ++ [AO.tup [iv inner0, .obj wl, .int 0]] = σ6 at k6 hwl6 ⊢
  have g6 : G xs wl [] σ6 := ⟨k6 _ _ s0, ⟨none, k6 _ _ c0⟩, [], hwl6, rfl, fun i w h => by simp at h⟩
  obtain ⟨fu, hfu⟩ : ∃ fu, 70 = deep + (fu + 1) := ⟨69 - deep, by lia⟩
  refine SK.next (RX.seq (RX.for (iRange_eq (k := 1) rfl (by lia) (by lia)) ?_))
  rw [hfu]
  refine loop1 (deep := deep) hdle hx ?_ hd1 fu deep [] inner0 0 none none none none none none σ6 rfl g6 ⟨hinn, rfl⟩ (fun _ => rfl)
  intro ls inner k n t gg f m σ7 hls g7 ch
  have hil := ch.len
  cases ls with
  | nil => simp at hls; lia
  | cons w r =>
    obtain ⟨hw, _, hi, ch'⟩ := id ch
    have hi : inner = some w.D := by rw [hi]; simp
    subst hi
    have hwD : w.D.length ≤ 600 := by
      have : w.D.length ≤ 185 * (w :: r).length := hil
      lia
    obtain ⟨p0, hp0, hp0l⟩ := fmod_nat (b.fdiv 12) (d := 6) (by decide)
    obtain ⟨q0, hq0, hq0l⟩ := fmod_nat (a.fdiv 6) (d := 3) (by decide)
    refine SK.next (RX.seq (RX.asg (RE.call (RL.app (RL.cons ?_)))))
    refine RE.bin (RE.bin (RE.bin (RE.const (RE.dm (by decide) (by decide) (by decide) (RE.var rfl ⟨b, rfl, ?_⟩)))))
    rw [show (b.fdiv 12).fmod 6 = (p0 : Int) from hp0]
    refine RS.some (rep_bytes (by lia)) (RE.var rfl (add_bytes (by simp; lia) ?_))
    refine RE.cut (RE.const (RE.optNone (RE.optSome (RE.dm (by decide) (by decide) (by decide) (RE.var rfl ⟨a, rfl, ?_⟩)))))
    rw [show (a.fdiv 6).fmod 3 = (q0 : Int) from hq0]
    refine ⟨none, some q0, rfl, ?_, RS.some (a := .bytes (cutL [1, 2] none (some q0))) (s := σ7) ?_ (add_bytes ?_ (RL.nil (RL.nil ?_)))⟩
    · show (if (0 : Int) ≤ (q0 : Int) then some (some (q0 : Int).toNat) else none) = _
      rw [if_pos (by lia), Int.toNat_natCast]
    · unfold gCut
      dsimp only
      exact if_pos (by decide)
    · have : (cutL [(1 : UInt8), 2] none (some q0)).length ≤ 2 := by unfold cutL; simp; lia
      simp
      lia
    have hcl : (cutL [(1 : UInt8), 2] none (some q0)).length ≤ 2 := by unfold cutL; simp; lia
    have hO : List.replicate p0 (7 : UInt8) ++ w.D ++ cutL [1, 2] none (some q0) = List.replicate p0 7 ++ (w.D ++ cutL [1, 2] none (some q0)) := List.append_assoc _ _ _
    have hOl : (List.replicate p0 (7 : UInt8) ++ w.D ++ cutL [1, 2] none (some q0)).length ≤ 50000 := by simp; lia
    generalize List.replicate p0 (7 : UInt8) ++ w.D ++ cutL [1, 2] none (some q0) = O at hO hOl ⊢
    refine RF.some (a := .obj σ7.length) (s := σ7 ++ [.ba O]) ?_ ⟨of_decide_eq_true rfl, SK.next ?_⟩
    · show fBa [.bytes O] σ7 = _
      unfold fBa
      dsimp only
      exact if_pos (by lia)
    have ho : (σ7 ++ [AO.ba O])[σ7.length]? = some (.ba O) := get_end
    have g8 := g7.kp (Kp.app [AO.ba O])
    generalize σ7.length = wo at ho ⊢
    generalize σ7 ++ [AO.ba O] = σ8 at ho g8 ⊢
    have hby : ∀ {s : AH}, s[wo]? = some (.ba O) → fBytes [.obj wo] s = some (.bytes O, s) := fun {s} h => by
      unfold fBytes lends
      dsimp only
      rw [h]
      exact if_pos (by lia)
    refine RX.seq (RX.asg (RE.call (RL.app (RL.cons (RE.var rfl (RL.nil (RL.nil ?_)))))))
    refine RF.some (hby ho) ⟨of_decide_eq_true rfl, SK.next (RX.seq (RX.unpS (RE.tup (RL.cons (RE.dm (by decide) (by decide) (by decide) (RE.var rfl ⟨b, rfl, ?_⟩))))))⟩
    rw [show (b.fdiv 12).fmod 6 = (p0 : Int) from hp0]
    refine RL.cons (RE.call (RL.app (RL.cons (RE.var rfl (RL.nil (RL.nil ?_))))))
    refine RF.some (len_bytes (x := w.D) (by lia)) (RL.nil ?_)
    refine ⟨[.int p0, .int w.D.length], lz deep a b k wo O (some w.D) wl n t gg f m p0 w.D.length none none none, by unfold itemsOf; dsimp only; rw [get_end], rfl, rfl, ?_⟩
    have g9 := g8.kp (Kp.app [AO.tup [.int p0, .int w.D.length]])
    have ho9 : (σ8 ++ [AO.tup [.int p0, .int w.D.length]])[wo]? = some (.ba O) := get_app ho
    generalize σ8 ++ [AO.tup [.int p0, .int w.D.length]] = σ9 at g9 ho9 ⊢
    refine SK.next (RX.seq (RX.for (iRange_eq (k := 1) rfl (by lia) (by lia)) ?_))
    have hlen : (w :: r).length = deep := hls
    refine Eq.mp ?_ (loop2 (ls := w :: r) (xs := xs) (wl := wl) (deep := deep) (a := a) (b := b) (wo := wo) (O := O) (inn := some w.D) (n := n) (t := t) (gg := gg) (f := f) (m := m) (Q := SK (xSeq (xRet (eCmp mEq (eCall ([(eVar 3)] ++ []) fBytes) (eVar 4))) xNil) fun fl _ _ => fl = .ret (.bool true)) hls hdle hOl ?_ fu (w :: r) [] (some w.D) 0 k p0 w.D.length none none none σ9 rfl g9 (by simpa using ch) ho9 ?_)
    · rw [hlen]; rfl
    · intro k' start many v17 v18 v19 s hs
      refine SK.next (RX.seq (RX.ret (RE.cmp (RE.call (RL.app (RL.cons (RE.var rfl (RL.nil (RL.nil ?_)))))))))
      refine RF.some (hby hs) (RE.var rfl (RC.eq rfl ?_))
      show Fl.ret (.bool (O == O)) = _
      rw [beq_self_eq_true]
    · intro w' r' e
      cases e
      exact ⟨List.replicate p0 7, cutL [1, 2] none (some q0), hO, by simp, rfl⟩
end
end Mine
namespace Mine
theorem law_true (xs : List Int) (hx : xs.length ≤ 63) : ∃ vars' σ', x_law (startV fi_law [.obj 0]) [.list false (xs.map .int), .cell none] = some (.ret (.bool true), vars', σ') := by
  obtain ⟨fl, v, s, e, rfl⟩ := law_spec xs hx
  exact ⟨v, s, e⟩
set_option maxRecDepth 100000 in
set_option maxHeartbeats 8000000 in
/-- the head (the library's, with holds_open of Hx), then the walk -/
theorem holds_all : PySem.Challenge.rw_bb0043_01.Holds := by
  w_on
  o_law
  o_head (kHook hK hAs hAs_ok)
  case hw => w_witness2
  case hc => exact walk_of law_true _ _ _ _ _ rfl
end Mine
theorem PySem.Challenge.cw_bb0043_01_holds : PySem.Challenge.rw_bb0043_01.Holds :=
  Mine.holds_all
