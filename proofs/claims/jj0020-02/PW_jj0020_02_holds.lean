import PyProof.Rows.All
import Wide.All
import OpenK.AllK
import Wide.FinOn
import PySem.Challenge.RW_jj0020_02
open PySem PySem.W PyProof.Rows PySem.Calls
set_option Elab.async false
set_option maxRecDepth 100000
set_option maxHeartbeats 0
set_option linter.all false
namespace Mine
/-! ## the head: the top's run, by one check -/
theorem end_through (t : Thread) : (through t = true ∧ ∃ f, endAt 0 t = some f) ∨ (through t = false ∧ endAt 0 t = none) := by
  obtain ⟨cur, code, pos, stack⟩ := t
  cases stack with
  | cons a l => exact .inr ⟨rfl, by simp [endAt]⟩
  | nil => cases cur with
    | pure x => cases x with
      | done f => exact .inl ⟨rfl, f, rfl⟩
      | again c => exact .inr ⟨rfl, rfl⟩
    | _ => exact .inr ⟨rfl, rfl⟩
theorem topRun_of_seg {tb : String → Option Builtin} {p : Program} {w : World} {n₀ : Nat} {ann : Option Value} : ∀ {n : Nat} {s s' : Shared} {t : Thread} {f : Flow} {c : Code} {q : Pos},
    segRun tb p w n₀ ann 0 n s t = some (f, s', c, q) → topRun tb p w n₀ ann n s t = some s'
  | 0, _, _, _, _, _, _, h => by cases h
  | n + 1, s, s', t, f, c, q, h => by
    unfold segRun at h
    unfold topRun
    rcases end_through t with ⟨ht, x, he⟩ | ⟨ht, he⟩
    · rw [he] at h
      rw [ht]
      cases h; rfl
    · rw [he] at h
      rw [ht]
      cases hk : stepOk n₀ ann t with
      | false => rw [hk] at h; cases h
      | true =>
        rw [hk] at h
        cases hs : step (denote tb) p w s t with
        | halt o s₂ => rw [hs] at h; cases h
        | go s₂ t₂ => rw [hs] at h; exact topRun_of_seg h

theorem left_one {p q : Program} {loose : List Str} {Xt : Shared → Bool} {α : Type} {Yf : Shared → α} {Ya : World → α} {N M m₀ k₀ : Nat} {ann : Option Value} {H₀ : Params → Heap} {gs₀ : Array GenState} {d₀ : Drawn} {T₀ : World → OsState → SharedT} {mods : List Str} (hm : mods = importedModules p.main.body)
    (open_ : ∀ w : World, (fencedOpening treeTable p w N).map (fun s => (s.heap, s.gens, s.drawn, s.toks)) = some (H₀ w.params, gs₀, d₀, k₀))
    (size : ∀ w : World, ((H₀ w.params).isNs mainGlobals && gs₀.size == 0, (H₀ w.params).objs.size, (H₀ w.params).nsMap mainGlobals "__annotations__") = (true, m₀, ann))
    (hT : ∀ w os, (T₀ w os).abs = ⟨H₀ w.params, gs₀, d₀, k₀, os⟩) (le : Nat.ble M N = true)
    (run : ∀ (w : World) (os : OsState), (segRunT treeTable p w m₀ ann 0 M (T₀ w os) (topStub p)).map (fun r =>
        ((staticsOk mods (H₀ w.params) r.2.1.abs.heap && namesBound p r.2.1.abs.heap && gensDone r.2.1.abs && laidKept (H₀ w.params) r.2.1.abs.heap),
          openSeen q loose mods Xt true r.2.1.abs, Yf r.2.1.abs)) = some (true, openGood q loose, Ya w)) : LeftO p q loose Xt Yf Ya N := fun w => by
  subst hm
  obtain ⟨⟨h, gs, d, k, os⟩, e, e'⟩ := Option.map_eq_some_iff.mp (open_ w)
  obtain ⟨rfl, rfl, rfl, rfl⟩ : h = H₀ w.params ∧ gs = gs₀ ∧ d = d₀ ∧ k = k₀ := by simpa using e'
  obtain ⟨z1, z2, z3⟩ : _ ∧ _ ∧ _ := by simpa only [Prod.mk.injEq] using size w
  obtain ⟨⟨f, s₁, c, q'⟩, r1, r2⟩ := Option.map_eq_some_iff.mp (run w os)
  obtain ⟨l1, l2, l3⟩ : _ ∧ _ ∧ _ := by simpa only [Prod.mk.injEq] using r2
  have r := topRun_of_seg (segRun_of r1)
  rw [hT] at r
  replace r := topRun_mono (N - M) _ _ _ _ r
  rw [show M + (N - M) = N by have := Nat.le_of_ble_eq_true le; omega] at r
  have t : topFrom treeTable p w N ⟨H₀ w.params, gs, d, k, os⟩ = some s₁.abs := by
    unfold topFrom
    dsimp only
    rw [z1, z2, z3, r]
    show (match staticsOk (importedModules p.main.body) (H₀ w.params) s₁.abs.heap && namesBound p s₁.abs.heap && gensDone s₁.abs && laidKept (H₀ w.params) s₁.abs.heap with | true => _ | false => _) = _
    rw [l1]
  unfold openEnds
  rw [e]
  show (topFrom treeTable p w N _).map _ = _
  rw [t]
  exact congrArg some (Prod.ext l2 l3)
end Mine

namespace Mine
noncomputable abbrev PW : Program := PySem.Challenge.pw_jj0020_02
noncomputable def partsOfDef : Stmt → Arguments × List Stmt × Scope
  | .FunctionDef _ a b _ _ _ s _ _ _ => (a, b, s)
  | _ => (⟨[], [], none, [], [], none, []⟩, [], { kind := .module, names := [], isGenerator := false, isCoroutine := false, more := [] })
noncomputable def fdTop (i : Nat) : Arguments × List Stmt × Scope := match PW.main.body[i]? with
  | some st => partsOfDef st
  | none => partsOfDef (.Pass default)
noncomputable def fdIn (i j : Nat) : Arguments × List Stmt × Scope := match PW.main.body[i]? with
  | some (.ClassDef _ _ _ b ..) => (match b[j]? with | some st => partsOfDef st | none => partsOfDef (.Pass default))
  | _ => partsOfDef (.Pass default)
noncomputable abbrev lit {α : Type} (x b : α) (_ : x = b) : α := b
noncomputable abbrev f2m0P : Arguments := lit (fdIn 2 0).1 _ (by conv => lhs; whnf)
noncomputable abbrev f2m0B : List Stmt := lit (fdIn 2 0).2.1 _ (by conv => lhs; whnf)
noncomputable abbrev f2m0S : Scope := lit (fdIn 2 0).2.2 _ (by conv => lhs; whnf)
noncomputable abbrev f3m0P : Arguments := lit (fdIn 3 0).1 _ (by conv => lhs; whnf)
noncomputable abbrev f3m0B : List Stmt := lit (fdIn 3 0).2.1 _ (by conv => lhs; whnf)
noncomputable abbrev f3m0S : Scope := lit (fdIn 3 0).2.2 _ (by conv => lhs; whnf)
noncomputable abbrev f3m1P : Arguments := lit (fdIn 3 1).1 _ (by conv => lhs; whnf)
noncomputable abbrev f3m1B : List Stmt := lit (fdIn 3 1).2.1 _ (by conv => lhs; whnf)
noncomputable abbrev f3m1S : Scope := lit (fdIn 3 1).2.2 _ (by conv => lhs; whnf)
noncomputable abbrev f3m2P : Arguments := lit (fdIn 3 2).1 _ (by conv => lhs; whnf)
noncomputable abbrev f3m2B : List Stmt := lit (fdIn 3 2).2.1 _ (by conv => lhs; whnf)
noncomputable abbrev f3m2S : Scope := lit (fdIn 3 2).2.2 _ (by conv => lhs; whnf)
noncomputable abbrev f3m3P : Arguments := lit (fdIn 3 3).1 _ (by conv => lhs; whnf)
noncomputable abbrev f3m3B : List Stmt := lit (fdIn 3 3).2.1 _ (by conv => lhs; whnf)
noncomputable abbrev f3m3S : Scope := lit (fdIn 3 3).2.2 _ (by conv => lhs; whnf)
noncomputable abbrev f3m4P : Arguments := lit (fdIn 3 4).1 _ (by conv => lhs; whnf)
noncomputable abbrev f3m4B : List Stmt := lit (fdIn 3 4).2.1 _ (by conv => lhs; whnf)
noncomputable abbrev f3m4S : Scope := lit (fdIn 3 4).2.2 _ (by conv => lhs; whnf)
noncomputable abbrev f3m5P : Arguments := lit (fdIn 3 5).1 _ (by conv => lhs; whnf)
noncomputable abbrev f3m5B : List Stmt := lit (fdIn 3 5).2.1 _ (by conv => lhs; whnf)
noncomputable abbrev f3m5S : Scope := lit (fdIn 3 5).2.2 _ (by conv => lhs; whnf)
noncomputable abbrev f14m2P : Arguments := lit (fdIn 14 2).1 _ (by conv => lhs; whnf)
noncomputable abbrev f14m2B : List Stmt := lit (fdIn 14 2).2.1 _ (by conv => lhs; whnf)
noncomputable abbrev f14m2S : Scope := lit (fdIn 14 2).2.2 _ (by conv => lhs; whnf)
noncomputable abbrev f14m7P : Arguments := lit (fdIn 14 7).1 _ (by conv => lhs; whnf)
noncomputable abbrev f14m7B : List Stmt := lit (fdIn 14 7).2.1 _ (by conv => lhs; whnf)
noncomputable abbrev f14m7S : Scope := lit (fdIn 14 7).2.2 _ (by conv => lhs; whnf)
noncomputable abbrev f14m8P : Arguments := lit (fdIn 14 8).1 _ (by conv => lhs; whnf)
noncomputable abbrev f14m8B : List Stmt := lit (fdIn 14 8).2.1 _ (by conv => lhs; whnf)
noncomputable abbrev f14m8S : Scope := lit (fdIn 14 8).2.2 _ (by conv => lhs; whnf)
noncomputable abbrev f16m13P : Arguments := lit (fdIn 16 13).1 _ (by conv => lhs; whnf)
noncomputable abbrev f16m13B : List Stmt := lit (fdIn 16 13).2.1 _ (by conv => lhs; whnf)
noncomputable abbrev f16m13S : Scope := lit (fdIn 16 13).2.2 _ (by conv => lhs; whnf)
noncomputable abbrev f16m14P : Arguments := lit (fdIn 16 14).1 _ (by conv => lhs; whnf)
noncomputable abbrev f16m14B : List Stmt := lit (fdIn 16 14).2.1 _ (by conv => lhs; whnf)
noncomputable abbrev f16m14S : Scope := lit (fdIn 16 14).2.2 _ (by conv => lhs; whnf)
noncomputable abbrev f16m16P : Arguments := lit (fdIn 16 16).1 _ (by conv => lhs; whnf)
noncomputable abbrev f16m16B : List Stmt := lit (fdIn 16 16).2.1 _ (by conv => lhs; whnf)
noncomputable abbrev f16m16S : Scope := lit (fdIn 16 16).2.2 _ (by conv => lhs; whnf)
noncomputable abbrev f16m17P : Arguments := lit (fdIn 16 17).1 _ (by conv => lhs; whnf)
noncomputable abbrev f16m17B : List Stmt := lit (fdIn 16 17).2.1 _ (by conv => lhs; whnf)
noncomputable abbrev f16m17S : Scope := lit (fdIn 16 17).2.2 _ (by conv => lhs; whnf)
noncomputable abbrev f16m18P : Arguments := lit (fdIn 16 18).1 _ (by conv => lhs; whnf)
noncomputable abbrev f16m18B : List Stmt := lit (fdIn 16 18).2.1 _ (by conv => lhs; whnf)
noncomputable abbrev f16m18S : Scope := lit (fdIn 16 18).2.2 _ (by conv => lhs; whnf)
noncomputable abbrev f16m19P : Arguments := lit (fdIn 16 19).1 _ (by conv => lhs; whnf)
noncomputable abbrev f16m19B : List Stmt := lit (fdIn 16 19).2.1 _ (by conv => lhs; whnf)
noncomputable abbrev f16m19S : Scope := lit (fdIn 16 19).2.2 _ (by conv => lhs; whnf)
noncomputable abbrev f16m21P : Arguments := lit (fdIn 16 21).1 _ (by conv => lhs; whnf)
noncomputable abbrev f16m21B : List Stmt := lit (fdIn 16 21).2.1 _ (by conv => lhs; whnf)
noncomputable abbrev f16m21S : Scope := lit (fdIn 16 21).2.2 _ (by conv => lhs; whnf)
noncomputable abbrev f16m25P : Arguments := lit (fdIn 16 25).1 _ (by conv => lhs; whnf)
noncomputable abbrev f16m25B : List Stmt := lit (fdIn 16 25).2.1 _ (by conv => lhs; whnf)
noncomputable abbrev f16m25S : Scope := lit (fdIn 16 25).2.2 _ (by conv => lhs; whnf)
noncomputable abbrev f19P : Arguments := lit (fdTop 19).1 _ (by conv => lhs; whnf)
noncomputable abbrev f19B : List Stmt := lit (fdTop 19).2.1 _ (by conv => lhs; whnf)
noncomputable abbrev f19S : Scope := lit (fdTop 19).2.2 _ (by conv => lhs; whnf)
noncomputable abbrev f20P : Arguments := lit (fdTop 20).1 _ (by conv => lhs; whnf)
noncomputable abbrev f20B : List Stmt := lit (fdTop 20).2.1 _ (by conv => lhs; whnf)
noncomputable abbrev f20S : Scope := lit (fdTop 20).2.2 _ (by conv => lhs; whnf)
noncomputable abbrev f21P : Arguments := lit (fdTop 21).1 _ (by conv => lhs; whnf)
noncomputable abbrev f21B : List Stmt := lit (fdTop 21).2.1 _ (by conv => lhs; whnf)
noncomputable abbrev f21S : Scope := lit (fdTop 21).2.2 _ (by conv => lhs; whnf)
noncomputable abbrev f22P : Arguments := lit (fdTop 22).1 _ (by conv => lhs; whnf)
noncomputable abbrev f22B : List Stmt := lit (fdTop 22).2.1 _ (by conv => lhs; whnf)
noncomputable abbrev f22S : Scope := lit (fdTop 22).2.2 _ (by conv => lhs; whnf)
noncomputable abbrev f23P : Arguments := lit (fdTop 23).1 _ (by conv => lhs; whnf)
noncomputable abbrev f23B : List Stmt := lit (fdTop 23).2.1 _ (by conv => lhs; whnf)
noncomputable abbrev f23S : Scope := lit (fdTop 23).2.2 _ (by conv => lhs; whnf)
noncomputable abbrev f24P : Arguments := lit (fdTop 24).1 _ (by conv => lhs; whnf)
noncomputable abbrev f24B : List Stmt := lit (fdTop 24).2.1 _ (by conv => lhs; whnf)
noncomputable abbrev f24S : Scope := lit (fdTop 24).2.2 _ (by conv => lhs; whnf)
noncomputable abbrev f25P : Arguments := lit (fdTop 25).1 _ (by conv => lhs; whnf)
noncomputable abbrev f25B : List Stmt := lit (fdTop 25).2.1 _ (by conv => lhs; whnf)
noncomputable abbrev f25S : Scope := lit (fdTop 25).2.2 _ (by conv => lhs; whnf)
noncomputable abbrev f26P : Arguments := lit (fdTop 26).1 _ (by conv => lhs; whnf)
noncomputable abbrev f26B : List Stmt := lit (fdTop 26).2.1 _ (by conv => lhs; whnf)
noncomputable abbrev f26S : Scope := lit (fdTop 26).2.2 _ (by conv => lhs; whnf)
noncomputable def KK : Params → Frag := fun P =>
  (nat_lit 2, ⟨.none, none, .dict #[⟨PyData.keyHash P (Str.ofString "type.__subclasses__.Exception.0"), .str (Str.ofString "type.__subclasses__.Exception.0") 383, .int 128 0⟩, ⟨PyData.keyHash P (Str.ofString "type.__subclasses__.Exception.n"), .str (Str.ofString "type.__subclasses__.Exception.n") 384, .int 2 0⟩, ⟨PyData.keyHash P (Str.ofString "type.__subclasses__.Exception.1"), .str (Str.ofString "type.__subclasses__.Exception.1") 431, .int 162 0⟩] 3, #[]⟩) ::
  (nat_lit 3, ⟨.type "dict", none, .dict #[⟨PyData.keyHash P (Str.ofString "__name__"), .str (Str.ofString "__name__") 165, .str (Str.ofString "law_jj0020_02") 1248⟩, ⟨PyData.keyHash P (Str.ofString "__doc__"), .str (Str.ofString "__doc__") 166, .none⟩, ⟨PyData.keyHash P (Str.ofString "__package__"), .str (Str.ofString "__package__") 167, .none⟩, ⟨PyData.keyHash P (Str.ofString "__loader__"), .str (Str.ofString "__loader__") 168, .builtin "__main__.__loader__#opaque"⟩, ⟨PyData.keyHash P (Str.ofString "__spec__"), .str (Str.ofString "__spec__") 169, .none⟩, ⟨PyData.keyHash P (Str.ofString "__annotations__"), .str (Str.ofString "__annotations__") 170, .ref 6⟩, ⟨PyData.keyHash P (Str.ofString "__builtins__"), .str (Str.ofString "__builtins__") 171, .ref 4⟩, ⟨PyData.keyHash P (Str.ofString "__file__"), .str (Str.ofString "__file__") 173, .str (Str.ofString "/claim/cut.py") 172⟩, ⟨PyData.keyHash P (Str.ofString "__cached__"), .str (Str.ofString "__cached__") 174, .none⟩, ⟨PyData.keyHash P (Str.ofString "_wall"), .str (Str.ofString "_wall") 193, .ref 21⟩, ⟨PyData.keyHash P (Str.ofString "DosTime"), .str (Str.ofString "DosTime") 228, .ref 38⟩, ⟨PyData.keyHash P (Str.ofString "DosDateTime"), .str (Str.ofString "DosDateTime") 352, .ref 104⟩, ⟨PyData.keyHash P (Str.ofString "PyFATException"), .str (Str.ofString "PyFATException") 386, .ref 128⟩, ⟨PyData.keyHash P (Str.ofString "BrokenLFNEntryException"), .str (Str.ofString "BrokenLFNEntryException") 402, .ref 141⟩, ⟨PyData.keyHash P (Str.ofString "NotAFatEntryException"), .str (Str.ofString "NotAFatEntryException") 434, .ref 162⟩, ⟨PyData.keyHash P (Str.ofString "errno"), .str (Str.ofString "errno") 484, .ref 175⟩, ⟨PyData.keyHash P (Str.ofString "FAT_OEM_ENCODING"), .str (Str.ofString "FAT_OEM_ENCODING") 486, .str (Str.ofString "latin-1") 485⟩, ⟨PyData.keyHash P (Str.ofString "decoded"), .str (Str.ofString "decoded") 492, .ref 184⟩, ⟨PyData.keyHash P (Str.ofString "decoded16"), .str (Str.ofString "decoded16") 498, .ref 189⟩, ⟨PyData.keyHash P (Str.ofString "init_check"), .str (Str.ofString "init_check") 505, .ref 196⟩, ⟨PyData.keyHash P (Str.ofString "EightDotThree"), .str (Str.ofString "EightDotThree") 713, .ref 315⟩, ⟨PyData.keyHash P (Str.ofString "FATDirectoryEntry"), .str (Str.ofString "FATDirectoryEntry") 1128, .ref 605⟩, ⟨PyData.keyHash P (Str.ofString "FATLongDirectoryEntry"), .str (Str.ofString "FATLongDirectoryEntry") 1247, .ref 680⟩, ⟨PyData.keyHash P (Str.ofString "_law_length"), .str (Str.ofString "_law_length") 1257, .ref 691⟩, ⟨PyData.keyHash P (Str.ofString "_law_date"), .str (Str.ofString "_law_date") 1268, .ref 698⟩, ⟨PyData.keyHash P (Str.ofString "_law_clock"), .str (Str.ofString "_law_clock") 1279, .ref 705⟩, ⟨PyData.keyHash P (Str.ofString "_law_count"), .str (Str.ofString "_law_count") 1290, .ref 712⟩, ⟨PyData.keyHash P (Str.ofString "_law_six"), .str (Str.ofString "_law_six") 1297, .ref 719⟩, ⟨PyData.keyHash P (Str.ofString "_law_clocks"), .str (Str.ofString "_law_clocks") 1306, .ref 726⟩, ⟨PyData.keyHash P (Str.ofString "_law_pair"), .str (Str.ofString "_law_pair") 1313, .ref 733⟩, ⟨PyData.keyHash P (Str.ofString "law"), .str (Str.ofString "law") 1319, .ref 738⟩] 31, #[]⟩) ::
  (nat_lit 20, ⟨.type "code", none, .fields #[.str (Str.ofString "_wall") 187, .str (Str.ofString "_wall") 188, .str (Str.ofString "/claim/cut.py") 189, .int 1 0, .int 1 0, .int 0 0, .int 0 0, .int 3 0, .ref 15, .bool true, .int 181 0, .ref 16, .none, .ref 17, .ref 18, .ref 19, .int 191 0, .int 1 0, .str (Str.ofString "/claim/cut.py") 192], #[]⟩) ::
  (nat_lit 34, ⟨.type "code", none, .fields #[.str (Str.ofString "__init__") 208, .str (Str.ofString "DosTime.__init__") 209, .str (Str.ofString "/claim/cut.py") 210, .int 7 0, .int 4 0, .int 0 0, .int 0 0, .int 3 0, .ref 29, .bool true, .int 181 0, .ref 30, .none, .ref 31, .ref 32, .ref 33, .int 215 0, .int 7 0, .str (Str.ofString "/claim/cut.py") 216], #[]⟩) ::
  (nat_lit 35, ⟨.type "function", none, .func (fnOf (Str.ofString "__init__") (Str.ofString "DosTime.__init__") f2m0P f2m0B f2m0S .none .none .none (.str (Str.ofString "pyfatfs.DosDateTime") 194) none (.ref 34) .none), #[]⟩) ::
  (nat_lit 37, ⟨.type "dict", none, .dict #[⟨PyData.keyHash P (Str.ofString "__module__"), .str (Str.ofString "__module__") 203, .str (Str.ofString "pyfatfs.DosDateTime") 194⟩, ⟨PyData.keyHash P (Str.ofString "__firstlineno__"), .str (Str.ofString "__firstlineno__") 207, .int 5 206⟩, ⟨PyData.keyHash P (Str.ofString "__init__"), .str (Str.ofString "__init__") 217, .ref 35⟩, ⟨PyData.keyHash P (Str.ofString "__static_attributes__"), .str (Str.ofString "__static_attributes__") 221, .ref 36⟩, ⟨PyData.keyHash P (Str.ofString "__dict__"), .str (Str.ofString "__dict__") 223, .ref 39⟩, ⟨PyData.keyHash P (Str.ofString "__weakref__"), .str (Str.ofString "__weakref__") 225, .ref 40⟩, ⟨PyData.keyHash P (Str.ofString "__doc__"), .str (Str.ofString "__doc__") 226, .none⟩] 4, #[]⟩) ::
  (nat_lit 38, ⟨.type "type", none, .cls { name := (Str.ofString "DosTime"), bases := [.type "object"], mro := [.ref 38, .type "object"], ns := 37, qualname := (Str.ofString "DosTime"), hasDict := true, slotNames := [], subclasses := [], abstract := false, collection := none, hasDel := false }, #[none, none, some (.str (Str.ofString "DosTime") 196), some (.str (Str.ofString "DosTime") 204), some (.builtin "object.__new__"), some (.bool true)]⟩) ::
  (nat_lit 50, ⟨.type "tuple", none, .seq #[.int 0 241, .int 0 242, .int 0 243] 0, #[]⟩) ::
  (nat_lit 56, ⟨.type "code", none, .fields #[.str (Str.ofString "__init__") 244, .str (Str.ofString "DosDateTime.__init__") 245, .str (Str.ofString "/claim/cut.py") 246, .int 15 0, .int 7 0, .int 0 0, .int 0 0, .int 3 0, .ref 51, .bool true, .int 181 0, .ref 52, .none, .ref 53, .ref 54, .ref 55, .int 256 0, .int 15 0, .str (Str.ofString "/claim/cut.py") 257], #[]⟩) ::
  (nat_lit 57, ⟨.type "function", none, .func (fnOf (Str.ofString "__init__") (Str.ofString "DosDateTime.__init__") f3m0P f3m0B f3m0S (.ref 50) .none .none (.str (Str.ofString "pyfatfs.DosDateTime") 194) none (.ref 56) .none), #[]⟩) ::
  (nat_lit 63, ⟨.type "code", none, .fields #[.str (Str.ofString "combine") 259, .str (Str.ofString "DosDateTime.combine") 260, .str (Str.ofString "/claim/cut.py") 261, .int 31 0, .int 2 0, .int 0 0, .int 0 0, .int 3 0, .ref 58, .bool true, .int 181 0, .ref 59, .none, .ref 60, .ref 61, .ref 62, .int 264 0, .int 31 0, .str (Str.ofString "/claim/cut.py") 265], #[]⟩) ::
  (nat_lit 64, ⟨.type "function", none, .func (fnOf (Str.ofString "combine") (Str.ofString "DosDateTime.combine") f3m1P f3m1B f3m1S .none .none .none (.str (Str.ofString "pyfatfs.DosDateTime") 194) (some 67) (.ref 63) .none), #[]⟩) ::
  (nat_lit 66, ⟨.type "staticmethod", (some 65), .fields #[.ref 64, .bool false], #[]⟩) ::
  (nat_lit 73, ⟨.type "code", none, .fields #[.str (Str.ofString "serialize_date") 279, .str (Str.ofString "DosDateTime.serialize_date") 280, .str (Str.ofString "/claim/cut.py") 281, .int 35 0, .int 1 0, .int 0 0, .int 0 0, .int 3 0, .ref 68, .bool true, .int 181 0, .ref 69, .none, .ref 70, .ref 71, .ref 72, .int 284 0, .int 35 0, .str (Str.ofString "/claim/cut.py") 285], #[]⟩) ::
  (nat_lit 74, ⟨.type "function", none, .func (fnOf (Str.ofString "serialize_date") (Str.ofString "DosDateTime.serialize_date") f3m2P f3m2B f3m2S .none .none .none (.str (Str.ofString "pyfatfs.DosDateTime") 194) none (.ref 73) .none), #[]⟩) ::
  (nat_lit 80, ⟨.type "code", none, .fields #[.str (Str.ofString "serialize_time") 287, .str (Str.ofString "DosDateTime.serialize_time") 288, .str (Str.ofString "/claim/cut.py") 289, .int 39 0, .int 1 0, .int 0 0, .int 0 0, .int 3 0, .ref 75, .bool true, .int 181 0, .ref 76, .none, .ref 77, .ref 78, .ref 79, .int 292 0, .int 39 0, .str (Str.ofString "/claim/cut.py") 293], #[]⟩) ::
  (nat_lit 81, ⟨.type "function", none, .func (fnOf (Str.ofString "serialize_time") (Str.ofString "DosDateTime.serialize_time") f3m3P f3m3B f3m3S .none .none .none (.str (Str.ofString "pyfatfs.DosDateTime") 194) none (.ref 80) .none), #[]⟩) ::
  (nat_lit 87, ⟨.type "code", none, .fields #[.str (Str.ofString "deserialize_date") 295, .str (Str.ofString "DosDateTime.deserialize_date") 296, .str (Str.ofString "/claim/cut.py") 297, .int 44 0, .int 1 0, .int 0 0, .int 0 0, .int 3 0, .ref 82, .bool true, .int 181 0, .ref 83, .none, .ref 84, .ref 85, .ref 86, .int 302 0, .int 44 0, .str (Str.ofString "/claim/cut.py") 303], #[]⟩) ::
  (nat_lit 88, ⟨.type "function", none, .func (fnOf (Str.ofString "deserialize_date") (Str.ofString "DosDateTime.deserialize_date") f3m4P f3m4B f3m4S .none .none .none (.str (Str.ofString "pyfatfs.DosDateTime") 194) (some 91) (.ref 87) .none), #[]⟩) ::
  (nat_lit 90, ⟨.type "staticmethod", (some 89), .fields #[.ref 88, .bool false], #[]⟩) ::
  (nat_lit 97, ⟨.type "code", none, .fields #[.str (Str.ofString "deserialize_time") 317, .str (Str.ofString "DosDateTime.deserialize_time") 318, .str (Str.ofString "/claim/cut.py") 319, .int 54 0, .int 1 0, .int 0 0, .int 0 0, .int 3 0, .ref 92, .bool true, .int 181 0, .ref 93, .none, .ref 94, .ref 95, .ref 96, .int 324 0, .int 54 0, .str (Str.ofString "/claim/cut.py") 325], #[]⟩) ::
  (nat_lit 98, ⟨.type "function", none, .func (fnOf (Str.ofString "deserialize_time") (Str.ofString "DosDateTime.deserialize_time") f3m5P f3m5B f3m5S .none .none .none (.str (Str.ofString "pyfatfs.DosDateTime") 194) (some 101) (.ref 97) .none), #[]⟩) ::
  (nat_lit 100, ⟨.type "staticmethod", (some 99), .fields #[.ref 98, .bool false], #[]⟩) ::
  (nat_lit 103, ⟨.type "dict", none, .dict #[⟨PyData.keyHash P (Str.ofString "__module__"), .str (Str.ofString "__module__") 236, .str (Str.ofString "pyfatfs.DosDateTime") 194⟩, ⟨PyData.keyHash P (Str.ofString "__firstlineno__"), .str (Str.ofString "__firstlineno__") 240, .int 13 239⟩, ⟨PyData.keyHash P (Str.ofString "__init__"), .str (Str.ofString "__init__") 258, .ref 57⟩, ⟨PyData.keyHash P (Str.ofString "combine"), .str (Str.ofString "combine") 278, .ref 66⟩, ⟨PyData.keyHash P (Str.ofString "serialize_date"), .str (Str.ofString "serialize_date") 286, .ref 74⟩, ⟨PyData.keyHash P (Str.ofString "serialize_time"), .str (Str.ofString "serialize_time") 294, .ref 81⟩, ⟨PyData.keyHash P (Str.ofString "deserialize_date"), .str (Str.ofString "deserialize_date") 316, .ref 90⟩, ⟨PyData.keyHash P (Str.ofString "deserialize_time"), .str (Str.ofString "deserialize_time") 338, .ref 100⟩, ⟨PyData.keyHash P (Str.ofString "__static_attributes__"), .str (Str.ofString "__static_attributes__") 345, .ref 102⟩, ⟨PyData.keyHash P (Str.ofString "__dict__"), .str (Str.ofString "__dict__") 347, .ref 105⟩, ⟨PyData.keyHash P (Str.ofString "__weakref__"), .str (Str.ofString "__weakref__") 349, .ref 106⟩, ⟨PyData.keyHash P (Str.ofString "__doc__"), .str (Str.ofString "__doc__") 350, .none⟩] 4, #[]⟩) ::
  (nat_lit 104, ⟨.type "type", none, .cls { name := (Str.ofString "DosDateTime"), bases := [.type "object"], mro := [.ref 104, .type "object"], ns := 103, qualname := (Str.ofString "DosDateTime"), hasDict := true, slotNames := [], subclasses := [], abstract := false, collection := none, hasDel := false }, #[none, none, some (.str (Str.ofString "DosDateTime") 229), some (.str (Str.ofString "DosDateTime") 237), some (.builtin "object.__new__"), some (.bool true)]⟩) ::
  (nat_lit 117, ⟨.type "tuple", none, .seq #[.none] 0, #[]⟩) ::
  (nat_lit 124, ⟨.type "code", none, .fields #[.str (Str.ofString "__init__") 367, .str (Str.ofString "PyFATException.__init__") 368, .str (Str.ofString "/claim/cut.py") 369, .int 66 0, .int 3 0, .int 0 0, .int 0 0, .int 3 0, .ref 119, .bool true, .int 181 0, .ref 120, .none, .ref 121, .ref 122, .ref 123, .int 374 0, .int 66 0, .str (Str.ofString "/claim/cut.py") 375], #[]⟩) ::
  (nat_lit 127, ⟨.type "dict", none, .dict #[⟨PyData.keyHash P (Str.ofString "__module__"), .str (Str.ofString "__module__") 362, .str (Str.ofString "pyfatfs._exceptions") 353⟩, ⟨PyData.keyHash P (Str.ofString "__firstlineno__"), .str (Str.ofString "__firstlineno__") 366, .int 64 365⟩, ⟨PyData.keyHash P (Str.ofString "__init__"), .str (Str.ofString "__init__") 376, .ref 125⟩, ⟨PyData.keyHash P (Str.ofString "__static_attributes__"), .str (Str.ofString "__static_attributes__") 378, .ref 126⟩, ⟨PyData.keyHash P (Str.ofString "__weakref__"), .str (Str.ofString "__weakref__") 381, .ref 129⟩, ⟨PyData.keyHash P (Str.ofString "__doc__"), .str (Str.ofString "__doc__") 382, .none⟩] 4, #[]⟩) ::
  (nat_lit 128, ⟨.type "type", none, .cls { name := (Str.ofString "PyFATException"), bases := [.type "Exception"], mro := [.ref 128, .type "Exception", .type "BaseException", .type "object"], ns := 127, qualname := (Str.ofString "PyFATException"), hasDict := true, slotNames := [], subclasses := [.ref 141], abstract := false, collection := none, hasDel := false }, #[some (.ref 109), none, some (.str (Str.ofString "PyFATException") 355), some (.str (Str.ofString "PyFATException") 363), some (.builtin "Exception.__new__"), some (.bool true)]⟩) ::
  (nat_lit 140, ⟨.type "dict", none, .dict #[⟨PyData.keyHash P (Str.ofString "__module__"), .str (Str.ofString "__module__") 394, .str (Str.ofString "pyfatfs._exceptions") 353⟩, ⟨PyData.keyHash P (Str.ofString "__firstlineno__"), .str (Str.ofString "__firstlineno__") 398, .int 69 397⟩, ⟨PyData.keyHash P (Str.ofString "__static_attributes__"), .str (Str.ofString "__static_attributes__") 399, .ref 139⟩, ⟨PyData.keyHash P (Str.ofString "__doc__"), .str (Str.ofString "__doc__") 400, .none⟩] 2, #[]⟩) ::
  (nat_lit 141, ⟨.type "type", none, .cls { name := (Str.ofString "BrokenLFNEntryException"), bases := [.ref 128], mro := [.ref 141, .ref 128, .type "Exception", .type "BaseException", .type "object"], ns := 140, qualname := (Str.ofString "BrokenLFNEntryException"), hasDict := true, slotNames := [], subclasses := [], abstract := false, collection := none, hasDel := false }, #[some (.ref 132), none, some (.str (Str.ofString "BrokenLFNEntryException") 387), some (.str (Str.ofString "BrokenLFNEntryException") 395), some (.builtin "Exception.__new__"), some (.bool true)]⟩) ::
  (nat_lit 158, ⟨.type "code", none, .fields #[.str (Str.ofString "__init__") 415, .str (Str.ofString "NotAFatEntryException.__init__") 416, .str (Str.ofString "/claim/cut.py") 417, .int 73 0, .int 3 0, .int 0 0, .int 0 0, .int 3 0, .ref 153, .bool true, .int 181 0, .ref 154, .none, .ref 155, .ref 156, .ref 157, .int 422 0, .int 73 0, .str (Str.ofString "/claim/cut.py") 423], #[]⟩) ::
  (nat_lit 161, ⟨.type "dict", none, .dict #[⟨PyData.keyHash P (Str.ofString "__module__"), .str (Str.ofString "__module__") 410, .str (Str.ofString "pyfatfs._exceptions") 353⟩, ⟨PyData.keyHash P (Str.ofString "__firstlineno__"), .str (Str.ofString "__firstlineno__") 414, .int 71 413⟩, ⟨PyData.keyHash P (Str.ofString "__init__"), .str (Str.ofString "__init__") 424, .ref 159⟩, ⟨PyData.keyHash P (Str.ofString "__static_attributes__"), .str (Str.ofString "__static_attributes__") 426, .ref 160⟩, ⟨PyData.keyHash P (Str.ofString "__weakref__"), .str (Str.ofString "__weakref__") 429, .ref 163⟩, ⟨PyData.keyHash P (Str.ofString "__doc__"), .str (Str.ofString "__doc__") 430, .none⟩] 4, #[]⟩) ::
  (nat_lit 162, ⟨.type "type", none, .cls { name := (Str.ofString "NotAFatEntryException"), bases := [.type "Exception"], mro := [.ref 162, .type "Exception", .type "BaseException", .type "object"], ns := 161, qualname := (Str.ofString "NotAFatEntryException"), hasDict := true, slotNames := [], subclasses := [], abstract := false, collection := none, hasDel := false }, #[some (.ref 144), none, some (.str (Str.ofString "NotAFatEntryException") 403), some (.str (Str.ofString "NotAFatEntryException") 411), some (.builtin "Exception.__new__"), some (.bool true)]⟩) ::
  (nat_lit 174, ⟨.type "dict", none, .dict #[⟨PyData.keyHash P (Str.ofString "__module__"), .str (Str.ofString "__module__") 442, .str (Str.ofString "pyfatfs._exceptions") 353⟩, ⟨PyData.keyHash P (Str.ofString "__firstlineno__"), .str (Str.ofString "__firstlineno__") 446, .int 76 445⟩, ⟨PyData.keyHash P (Str.ofString "ENOENT"), .str (Str.ofString "ENOENT") 448, .int 2 447⟩, ⟨PyData.keyHash P (Str.ofString "ENXIO"), .str (Str.ofString "ENXIO") 450, .int 6 449⟩, ⟨PyData.keyHash P (Str.ofString "E2BIG"), .str (Str.ofString "E2BIG") 452, .int 7 451⟩, ⟨PyData.keyHash P (Str.ofString "EFAULT"), .str (Str.ofString "EFAULT") 454, .int 14 453⟩, ⟨PyData.keyHash P (Str.ofString "EEXIST"), .str (Str.ofString "EEXIST") 456, .int 17 455⟩, ⟨PyData.keyHash P (Str.ofString "ENOTDIR"), .str (Str.ofString "ENOTDIR") 458, .int 20 457⟩, ⟨PyData.keyHash P (Str.ofString "EISDIR"), .str (Str.ofString "EISDIR") 460, .int 21 459⟩, ⟨PyData.keyHash P (Str.ofString "EINVAL"), .str (Str.ofString "EINVAL") 462, .int 22 461⟩, ⟨PyData.keyHash P (Str.ofString "EMFILE"), .str (Str.ofString "EMFILE") 464, .int 24 463⟩, ⟨PyData.keyHash P (Str.ofString "EACCES"), .str (Str.ofString "EACCES") 466, .int 13 465⟩, ⟨PyData.keyHash P (Str.ofString "ENOSPC"), .str (Str.ofString "ENOSPC") 468, .int 28 467⟩, ⟨PyData.keyHash P (Str.ofString "EROFS"), .str (Str.ofString "EROFS") 470, .int 30 469⟩, ⟨PyData.keyHash P (Str.ofString "ENAMETOOLONG"), .str (Str.ofString "ENAMETOOLONG") 472, .int 36 471⟩, ⟨PyData.keyHash P (Str.ofString "EBADE"), .str (Str.ofString "EBADE") 474, .int 52 473⟩, ⟨PyData.keyHash P (Str.ofString "ETOOMANYREFS"), .str (Str.ofString "ETOOMANYREFS") 476, .int 109 475⟩, ⟨PyData.keyHash P (Str.ofString "__static_attributes__"), .str (Str.ofString "__static_attributes__") 477, .ref 173⟩, ⟨PyData.keyHash P (Str.ofString "__dict__"), .str (Str.ofString "__dict__") 479, .ref 176⟩, ⟨PyData.keyHash P (Str.ofString "__weakref__"), .str (Str.ofString "__weakref__") 481, .ref 177⟩, ⟨PyData.keyHash P (Str.ofString "__doc__"), .str (Str.ofString "__doc__") 482, .none⟩] 4, #[]⟩) ::
  (nat_lit 175, ⟨.type "type", none, .cls { name := (Str.ofString "errno"), bases := [.type "object"], mro := [.ref 175, .type "object"], ns := 174, qualname := (Str.ofString "errno"), hasDict := true, slotNames := [], subclasses := [], abstract := false, collection := none, hasDel := false }, #[none, none, some (.str (Str.ofString "errno") 435), some (.str (Str.ofString "errno") 443), some (.builtin "object.__new__"), some (.bool true)]⟩) ::
  (nat_lit 183, ⟨.type "code", none, .fields #[.str (Str.ofString "decoded") 487, .str (Str.ofString "decoded") 488, .str (Str.ofString "/claim/cut.py") 489, .int 93 0, .int 1 0, .int 0 0, .int 0 0, .int 3 0, .ref 180, .bool true, .int 181 0, .ref 181, .none, .none, .none, .ref 182, .int 490 0, .int 93 0, .str (Str.ofString "/claim/cut.py") 491], #[]⟩) ::
  (nat_lit 188, ⟨.type "code", none, .fields #[.str (Str.ofString "decoded16") 493, .str (Str.ofString "decoded16") 494, .str (Str.ofString "/claim/cut.py") 495, .int 95 0, .int 1 0, .int 0 0, .int 0 0, .int 3 0, .ref 185, .bool true, .int 181 0, .ref 186, .none, .none, .none, .ref 187, .int 496 0, .int 95 0, .str (Str.ofString "/claim/cut.py") 497], #[]⟩) ::
  (nat_lit 195, ⟨.type "code", none, .fields #[.str (Str.ofString "init_check") 499, .str (Str.ofString "init_check") 500, .str (Str.ofString "/claim/cut.py") 501, .int 111 0, .int 1 0, .int 0 0, .int 0 0, .int 3 0, .ref 190, .bool true, .int 181 0, .ref 191, .none, .ref 192, .ref 193, .ref 194, .int 503 0, .int 111 0, .str (Str.ofString "/claim/cut.py") 504], #[]⟩) ::
  (nat_lit 204, ⟨.type "list", none, .seq #[.int 34 522, .int 42 523, .int 43 524, .int 44 525, .int 46 526, .int 47 527, .int 58 528, .int 59 529, .int 60 530, .int 61 531, .int 62 532, .int 63 533, .int 91 534, .int 92 535, .int 93 536, .int 124 537] 0, #[]⟩) ::
  (nat_lit 205, ⟨.type "tuple", none, .seq #[.str (Str.ofString "latin-1") 485] 0, #[]⟩) ::
  (nat_lit 211, ⟨.type "code", none, .fields #[.str (Str.ofString "__init__") 539, .str (Str.ofString "EightDotThree.__init__") 540, .str (Str.ofString "/claim/cut.py") 541, .int 119 0, .int 2 0, .int 0 0, .int 0 0, .int 3 0, .ref 206, .bool true, .int 181 0, .ref 207, .none, .ref 208, .ref 209, .ref 210, .int 544 0, .int 119 0, .str (Str.ofString "/claim/cut.py") 545], #[]⟩) ::
  (nat_lit 212, ⟨.type "function", none, .func (fnOf (Str.ofString "__init__") (Str.ofString "EightDotThree.__init__") f14m2P f14m2B f14m2S (.ref 205) .none .none (.str (Str.ofString "pyfatfs.EightDotThree") 506) none (.ref 211) .none), #[]⟩) ::
  (nat_lit 218, ⟨.type "code", none, .fields #[.str (Str.ofString "as_text") 547, .str (Str.ofString "EightDotThree.as_text") 548, .str (Str.ofString "/claim/cut.py") 549, .int 124 0, .int 1 0, .int 0 0, .int 0 0, .int 3 0, .ref 213, .bool true, .int 181 0, .ref 214, .none, .ref 215, .ref 216, .ref 217, .int 555 0, .int 124 0, .str (Str.ofString "/claim/cut.py") 556], #[]⟩) ::
  (nat_lit 225, ⟨.type "code", none, .fields #[.str (Str.ofString "as_bytes") 558, .str (Str.ofString "EightDotThree.as_bytes") 559, .str (Str.ofString "/claim/cut.py") 560, .int 133 0, .int 1 0, .int 0 0, .int 0 0, .int 3 0, .ref 220, .bool true, .int 181 0, .ref 221, .none, .ref 222, .ref 223, .ref 224, .int 562 0, .int 133 0, .str (Str.ofString "/claim/cut.py") 563], #[]⟩) ::
  (nat_lit 232, ⟨.type "code", none, .fields #[.str (Str.ofString "get_unpadded_filename") 565, .str (Str.ofString "EightDotThree.get_unpadded_filename") 566, .str (Str.ofString "/claim/cut.py") 567, .int 136 0, .int 1 0, .int 0 0, .int 0 0, .int 3 0, .ref 227, .bool true, .int 181 0, .ref 228, .none, .ref 229, .ref 230, .ref 231, .int 569 0, .int 136 0, .str (Str.ofString "/claim/cut.py") 570], #[]⟩) ::
  (nat_lit 239, ⟨.type "code", none, .fields #[.str (Str.ofString "_raise_8dot3_nonconformant") 572, .str (Str.ofString "EightDotThree._raise_8dot3_nonconformant") 573, .str (Str.ofString "/claim/cut.py") 574, .int 140 0, .int 1 0, .int 0 0, .int 0 0, .int 3 0, .ref 234, .bool true, .int 181 0, .ref 235, .none, .ref 236, .ref 237, .ref 238, .int 576 0, .int 140 0, .str (Str.ofString "/claim/cut.py") 577], #[]⟩) ::
  (nat_lit 242, ⟨.type "staticmethod", (some 241), .fields #[.ref 240, .bool false], #[]⟩) ::
  (nat_lit 249, ⟨.type "code", none, .fields #[.str (Str.ofString "_set_name") 591, .str (Str.ofString "EightDotThree._set_name") 592, .str (Str.ofString "/claim/cut.py") 593, .int 144 0, .int 2 0, .int 0 0, .int 0 0, .int 3 0, .ref 244, .bool true, .int 181 0, .ref 245, .none, .ref 246, .ref 247, .ref 248, .int 596 0, .int 144 0, .str (Str.ofString "/claim/cut.py") 597], #[]⟩) ::
  (nat_lit 250, ⟨.type "function", none, .func (fnOf (Str.ofString "_set_name") (Str.ofString "EightDotThree._set_name") f14m7P f14m7B f14m7S .none .none .none (.str (Str.ofString "pyfatfs.EightDotThree") 506) none (.ref 249) .none), #[]⟩) ::
  (nat_lit 256, ⟨.type "code", none, .fields #[.str (Str.ofString "set_byte_name") 599, .str (Str.ofString "EightDotThree.set_byte_name") 600, .str (Str.ofString "/claim/cut.py") 601, .int 150 0, .int 2 0, .int 0 0, .int 0 0, .int 3 0, .ref 251, .bool true, .int 181 0, .ref 252, .none, .ref 253, .ref 254, .ref 255, .int 604 0, .int 150 0, .str (Str.ofString "/claim/cut.py") 605], #[]⟩) ::
  (nat_lit 257, ⟨.type "function", none, .func (fnOf (Str.ofString "set_byte_name") (Str.ofString "EightDotThree.set_byte_name") f14m8P f14m8B f14m8S .none .none .none (.str (Str.ofString "pyfatfs.EightDotThree") 506) none (.ref 256) .none), #[]⟩) ::
  (nat_lit 263, ⟨.type "code", none, .fields #[.str (Str.ofString "set_str_name") 607, .str (Str.ofString "EightDotThree.set_str_name") 608, .str (Str.ofString "/claim/cut.py") 609, .int 160 0, .int 2 0, .int 0 0, .int 0 0, .int 3 0, .ref 258, .bool true, .int 181 0, .ref 259, .none, .ref 260, .ref 261, .ref 262, .int 612 0, .int 160 0, .str (Str.ofString "/claim/cut.py") 613], #[]⟩) ::
  (nat_lit 270, ⟨.type "code", none, .fields #[.str (Str.ofString "checksum") 615, .str (Str.ofString "EightDotThree.checksum") 616, .str (Str.ofString "/claim/cut.py") 617, .int 163 0, .int 1 0, .int 0 0, .int 0 0, .int 3 0, .ref 265, .bool true, .int 181 0, .ref 266, .none, .ref 267, .ref 268, .ref 269, .int 621 0, .int 163 0, .str (Str.ofString "/claim/cut.py") 622], #[]⟩) ::
  (nat_lit 277, ⟨.type "code", none, .fields #[.str (Str.ofString "_check_characters") 624, .str (Str.ofString "EightDotThree._check_characters") 625, .str (Str.ofString "/claim/cut.py") 626, .int 171 0, .int 2 0, .int 0 0, .int 0 0, .int 3 0, .ref 272, .bool true, .int 181 0, .ref 273, .none, .ref 274, .ref 275, .ref 276, .int 629 0, .int 171 0, .str (Str.ofString "/claim/cut.py") 630], #[]⟩) ::
  (nat_lit 280, ⟨.type "staticmethod", (some 279), .fields #[.ref 278, .bool false], #[]⟩) ::
  (nat_lit 282, ⟨.type "tuple", none, .seq #[.str (Str.ofString "latin-1") 485] 0, #[]⟩) ::
  (nat_lit 288, ⟨.type "code", none, .fields #[.str (Str.ofString "is_8dot3_conform") 644, .str (Str.ofString "EightDotThree.is_8dot3_conform") 645, .str (Str.ofString "/claim/cut.py") 646, .int 175 0, .int 2 0, .int 0 0, .int 0 0, .int 3 0, .ref 283, .bool true, .int 181 0, .ref 284, .none, .ref 285, .ref 286, .ref 287, .int 649 0, .int 175 0, .str (Str.ofString "/claim/cut.py") 650], #[]⟩) ::
  (nat_lit 291, ⟨.type "staticmethod", (some 290), .fields #[.ref 289, .bool false], #[]⟩) ::
  (nat_lit 298, ⟨.type "code", none, .fields #[.str (Str.ofString "_pad_8dot3_name") 664, .str (Str.ofString "EightDotThree._pad_8dot3_name") 665, .str (Str.ofString "/claim/cut.py") 666, .int 179 0, .int 1 0, .int 0 0, .int 0 0, .int 3 0, .ref 293, .bool true, .int 181 0, .ref 294, .none, .ref 295, .ref 296, .ref 297, .int 668 0, .int 179 0, .str (Str.ofString "/claim/cut.py") 669], #[]⟩) ::
  (nat_lit 301, ⟨.type "staticmethod", (some 300), .fields #[.ref 299, .bool false], #[]⟩) ::
  (nat_lit 308, ⟨.type "code", none, .fields #[.str (Str.ofString "make_8dot3_name") 683, .str (Str.ofString "EightDotThree.make_8dot3_name") 684, .str (Str.ofString "/claim/cut.py") 685, .int 183 0, .int 2 0, .int 0 0, .int 0 0, .int 3 0, .ref 303, .bool true, .int 181 0, .ref 304, .none, .ref 305, .ref 306, .ref 307, .int 688 0, .int 183 0, .str (Str.ofString "/claim/cut.py") 689], #[]⟩) ::
  (nat_lit 311, ⟨.type "staticmethod", (some 310), .fields #[.ref 309, .bool false], #[]⟩) ::
  (nat_lit 314, ⟨.type "dict", none, .dict #[⟨PyData.keyHash P (Str.ofString "__module__"), .str (Str.ofString "__module__") 515, .str (Str.ofString "pyfatfs.EightDotThree") 506⟩, ⟨PyData.keyHash P (Str.ofString "__firstlineno__"), .str (Str.ofString "__firstlineno__") 519, .int 115 518⟩, ⟨PyData.keyHash P (Str.ofString "SFN_LENGTH"), .str (Str.ofString "SFN_LENGTH") 521, .int 11 520⟩, ⟨PyData.keyHash P (Str.ofString "INVALID_CHARACTERS"), .str (Str.ofString "INVALID_CHARACTERS") 538, .ref 204⟩, ⟨PyData.keyHash P (Str.ofString "__init__"), .str (Str.ofString "__init__") 546, .ref 212⟩, ⟨PyData.keyHash P (Str.ofString "as_text"), .str (Str.ofString "as_text") 557, .ref 219⟩, ⟨PyData.keyHash P (Str.ofString "as_bytes"), .str (Str.ofString "as_bytes") 564, .ref 226⟩, ⟨PyData.keyHash P (Str.ofString "get_unpadded_filename"), .str (Str.ofString "get_unpadded_filename") 571, .ref 233⟩, ⟨PyData.keyHash P (Str.ofString "_raise_8dot3_nonconformant"), .str (Str.ofString "_raise_8dot3_nonconformant") 590, .ref 242⟩, ⟨PyData.keyHash P (Str.ofString "_set_name"), .str (Str.ofString "_set_name") 598, .ref 250⟩, ⟨PyData.keyHash P (Str.ofString "set_byte_name"), .str (Str.ofString "set_byte_name") 606, .ref 257⟩, ⟨PyData.keyHash P (Str.ofString "set_str_name"), .str (Str.ofString "set_str_name") 614, .ref 264⟩, ⟨PyData.keyHash P (Str.ofString "checksum"), .str (Str.ofString "checksum") 623, .ref 271⟩, ⟨PyData.keyHash P (Str.ofString "_check_characters"), .str (Str.ofString "_check_characters") 643, .ref 280⟩, ⟨PyData.keyHash P (Str.ofString "is_8dot3_conform"), .str (Str.ofString "is_8dot3_conform") 663, .ref 291⟩, ⟨PyData.keyHash P (Str.ofString "_pad_8dot3_name"), .str (Str.ofString "_pad_8dot3_name") 682, .ref 301⟩, ⟨PyData.keyHash P (Str.ofString "make_8dot3_name"), .str (Str.ofString "make_8dot3_name") 702, .ref 311⟩, ⟨PyData.keyHash P (Str.ofString "__static_attributes__"), .str (Str.ofString "__static_attributes__") 706, .ref 313⟩, ⟨PyData.keyHash P (Str.ofString "__dict__"), .str (Str.ofString "__dict__") 708, .ref 316⟩, ⟨PyData.keyHash P (Str.ofString "__weakref__"), .str (Str.ofString "__weakref__") 710, .ref 317⟩, ⟨PyData.keyHash P (Str.ofString "__doc__"), .str (Str.ofString "__doc__") 711, .none⟩] 4, #[]⟩) ::
  (nat_lit 315, ⟨.type "type", none, .cls { name := (Str.ofString "EightDotThree"), bases := [.type "object"], mro := [.ref 315, .type "object"], ns := 314, qualname := (Str.ofString "EightDotThree"), hasDict := true, slotNames := [], subclasses := [], abstract := false, collection := none, hasDel := false }, #[none, none, some (.str (Str.ofString "EightDotThree") 508), some (.str (Str.ofString "EightDotThree") 516), some (.builtin "object.__new__"), some (.bool true)]⟩) ::
  (nat_lit 327, ⟨.type "list", none, .seq #[.str (Str.ofString "DIR_Name") 752, .str (Str.ofString "DIR_Attr") 753, .str (Str.ofString "DIR_NTRes") 754, .str (Str.ofString "DIR_CrtTimeTenth") 755, .str (Str.ofString "DIR_CrtTime") 756, .str (Str.ofString "DIR_CrtDate") 757, .str (Str.ofString "DIR_LstAccessDate") 758, .str (Str.ofString "DIR_FstClusHI") 759, .str (Str.ofString "DIR_WrtTime") 760, .str (Str.ofString "DIR_WrtDate") 761, .str (Str.ofString "DIR_FstClusLO") 762, .str (Str.ofString "DIR_FileSize") 763] 0, #[]⟩) ::
  (nat_lit 328, ⟨.type "tuple", none, .seq #[.str (Str.ofString "latin-1") 485, .none, .bool false, .none] 0, #[]⟩) ::
  (nat_lit 334, ⟨.type "code", none, .fields #[.str (Str.ofString "__init__") 765, .str (Str.ofString "FATDirectoryEntry.__init__") 766, .str (Str.ofString "/claim/cut.py") 767, .int 202 0, .int 17 0, .int 0 0, .int 0 0, .int 3 0, .ref 329, .bool true, .int 181 0, .ref 330, .none, .ref 331, .ref 332, .ref 333, .int 785 0, .int 202 0, .str (Str.ofString "/claim/cut.py") 786], #[]⟩) ::
  (nat_lit 335, ⟨.type "function", none, .func (fnOf (Str.ofString "__init__") (Str.ofString "FATDirectoryEntry.__init__") f16m13P f16m13B f16m13S (.ref 328) .none .none (.str (Str.ofString "pyfatfs.FATDirectoryEntry") 714) none (.ref 334) .none), #[]⟩) ::
  (nat_lit 341, ⟨.type "code", none, .fields #[.str (Str.ofString "set_size") 788, .str (Str.ofString "FATDirectoryEntry.set_size") 789, .str (Str.ofString "/claim/cut.py") 790, .int 226 0, .int 2 0, .int 0 0, .int 0 0, .int 3 0, .ref 336, .bool true, .int 181 0, .ref 337, .none, .ref 338, .ref 339, .ref 340, .int 793 0, .int 226 0, .str (Str.ofString "/claim/cut.py") 794], #[]⟩) ::
  (nat_lit 342, ⟨.type "function", none, .func (fnOf (Str.ofString "set_size") (Str.ofString "FATDirectoryEntry.set_size") f16m14P f16m14B f16m14S .none .none .none (.str (Str.ofString "pyfatfs.FATDirectoryEntry") 714) none (.ref 341) .none), #[]⟩) ::
  (nat_lit 343, ⟨.type "tuple", none, .seq #[.int 0 796, .int 0 797, .int 0 798, .int 0 799] 0, #[]⟩) ::
  (nat_lit 349, ⟨.type "code", none, .fields #[.str (Str.ofString "new") 800, .str (Str.ofString "FATDirectoryEntry.new") 801, .str (Str.ofString "/claim/cut.py") 802, .int 231 0, .int 7 0, .int 0 0, .int 0 0, .int 3 0, .ref 344, .bool true, .int 181 0, .ref 345, .none, .ref 346, .ref 347, .ref 348, .int 810 0, .int 231 0, .str (Str.ofString "/claim/cut.py") 811], #[]⟩) ::
  (nat_lit 352, ⟨.type "staticmethod", (some 351), .fields #[.ref 350, .bool false], #[]⟩) ::
  (nat_lit 359, ⟨.type "code", none, .fields #[.str (Str.ofString "get_ctime") 825, .str (Str.ofString "FATDirectoryEntry.get_ctime") 826, .str (Str.ofString "/claim/cut.py") 827, .int 235 0, .int 1 0, .int 0 0, .int 0 0, .int 3 0, .ref 354, .bool true, .int 181 0, .ref 355, .none, .ref 356, .ref 357, .ref 358, .int 829 0, .int 235 0, .str (Str.ofString "/claim/cut.py") 830], #[]⟩) ::
  (nat_lit 360, ⟨.type "function", none, .func (fnOf (Str.ofString "get_ctime") (Str.ofString "FATDirectoryEntry.get_ctime") f16m16P f16m16B f16m16S .none .none .none (.str (Str.ofString "pyfatfs.FATDirectoryEntry") 714) none (.ref 359) .none), #[]⟩) ::
  (nat_lit 366, ⟨.type "code", none, .fields #[.str (Str.ofString "get_mtime") 832, .str (Str.ofString "FATDirectoryEntry.get_mtime") 833, .str (Str.ofString "/claim/cut.py") 834, .int 238 0, .int 1 0, .int 0 0, .int 0 0, .int 3 0, .ref 361, .bool true, .int 181 0, .ref 362, .none, .ref 363, .ref 364, .ref 365, .int 836 0, .int 238 0, .str (Str.ofString "/claim/cut.py") 837], #[]⟩) ::
  (nat_lit 367, ⟨.type "function", none, .func (fnOf (Str.ofString "get_mtime") (Str.ofString "FATDirectoryEntry.get_mtime") f16m17P f16m17B f16m17S .none .none .none (.str (Str.ofString "pyfatfs.FATDirectoryEntry") 714) none (.ref 366) .none), #[]⟩) ::
  (nat_lit 373, ⟨.type "code", none, .fields #[.str (Str.ofString "get_atime") 839, .str (Str.ofString "FATDirectoryEntry.get_atime") 840, .str (Str.ofString "/claim/cut.py") 841, .int 241 0, .int 1 0, .int 0 0, .int 0 0, .int 3 0, .ref 368, .bool true, .int 181 0, .ref 369, .none, .ref 370, .ref 371, .ref 372, .int 843 0, .int 241 0, .str (Str.ofString "/claim/cut.py") 844], #[]⟩) ::
  (nat_lit 374, ⟨.type "function", none, .func (fnOf (Str.ofString "get_atime") (Str.ofString "FATDirectoryEntry.get_atime") f16m18P f16m18B f16m18S .none .none .none (.str (Str.ofString "pyfatfs.FATDirectoryEntry") 714) none (.ref 373) .none), #[]⟩) ::
  (nat_lit 380, ⟨.type "code", none, .fields #[.str (Str.ofString "_combine_dosdatetime") 846, .str (Str.ofString "FATDirectoryEntry._combine_dosdatetime") 847, .str (Str.ofString "/claim/cut.py") 848, .int 244 0, .int 2 0, .int 0 0, .int 0 0, .int 3 0, .ref 375, .bool true, .int 181 0, .ref 376, .none, .ref 377, .ref 378, .ref 379, .int 851 0, .int 244 0, .str (Str.ofString "/claim/cut.py") 852], #[]⟩) ::
  (nat_lit 381, ⟨.type "function", none, .func (fnOf (Str.ofString "_combine_dosdatetime") (Str.ofString "FATDirectoryEntry._combine_dosdatetime") f16m19P f16m19B f16m19S .none .none .none (.str (Str.ofString "pyfatfs.FATDirectoryEntry") 714) (some 384) (.ref 380) .none), #[]⟩) ::
  (nat_lit 383, ⟨.type "staticmethod", (some 382), .fields #[.ref 381, .bool false], #[]⟩) ::
  (nat_lit 390, ⟨.type "code", none, .fields #[.str (Str.ofString "get_checksum") 866, .str (Str.ofString "FATDirectoryEntry.get_checksum") 867, .str (Str.ofString "/claim/cut.py") 868, .int 249 0, .int 1 0, .int 0 0, .int 0 0, .int 3 0, .ref 385, .bool true, .int 181 0, .ref 386, .none, .ref 387, .ref 388, .ref 389, .int 870 0, .int 249 0, .str (Str.ofString "/claim/cut.py") 871], #[]⟩) ::
  (nat_lit 397, ⟨.type "code", none, .fields #[.str (Str.ofString "set_lfn_entry") 873, .str (Str.ofString "FATDirectoryEntry.set_lfn_entry") 874, .str (Str.ofString "/claim/cut.py") 875, .int 252 0, .int 2 0, .int 0 0, .int 0 0, .int 3 0, .ref 392, .bool true, .int 181 0, .ref 393, .none, .ref 394, .ref 395, .ref 396, .int 881 0, .int 252 0, .str (Str.ofString "/claim/cut.py") 882], #[]⟩) ::
  (nat_lit 398, ⟨.type "function", none, .func (fnOf (Str.ofString "set_lfn_entry") (Str.ofString "FATDirectoryEntry.set_lfn_entry") f16m21P f16m21B f16m21S .none .none .none (.str (Str.ofString "pyfatfs.FATDirectoryEntry") 714) none (.ref 397) .none), #[]⟩) ::
  (nat_lit 404, ⟨.type "code", none, .fields #[.str (Str.ofString "get_entry_size") 884, .str (Str.ofString "FATDirectoryEntry.get_entry_size") 885, .str (Str.ofString "/claim/cut.py") 886, .int 262 0, .int 1 0, .int 0 0, .int 0 0, .int 3 0, .ref 399, .bool true, .int 181 0, .ref 400, .none, .ref 401, .ref 402, .ref 403, .int 888 0, .int 262 0, .str (Str.ofString "/claim/cut.py") 889], #[]⟩) ::
  (nat_lit 411, ⟨.type "code", none, .fields #[.str (Str.ofString "get_cluster") 891, .str (Str.ofString "FATDirectoryEntry.get_cluster") 892, .str (Str.ofString "/claim/cut.py") 893, .int 265 0, .int 1 0, .int 0 0, .int 0 0, .int 3 0, .ref 406, .bool true, .int 181 0, .ref 407, .none, .ref 408, .ref 409, .ref 410, .int 895 0, .int 265 0, .str (Str.ofString "/claim/cut.py") 896], #[]⟩) ::
  (nat_lit 418, ⟨.type "code", none, .fields #[.str (Str.ofString "set_cluster") 898, .str (Str.ofString "FATDirectoryEntry.set_cluster") 899, .str (Str.ofString "/claim/cut.py") 900, .int 268 0, .int 2 0, .int 0 0, .int 0 0, .int 3 0, .ref 413, .bool true, .int 181 0, .ref 414, .none, .ref 415, .ref 416, .ref 417, .int 903 0, .int 268 0, .str (Str.ofString "/claim/cut.py") 904], #[]⟩) ::
  (nat_lit 425, ⟨.type "code", none, .fields #[.str (Str.ofString "as_bytes") 906, .str (Str.ofString "FATDirectoryEntry.as_bytes") 907, .str (Str.ofString "/claim/cut.py") 908, .int 271 0, .int 1 0, .int 0 0, .int 0 0, .int 3 0, .ref 420, .bool true, .int 181 0, .ref 421, .none, .ref 422, .ref 423, .ref 424, .int 912 0, .int 271 0, .str (Str.ofString "/claim/cut.py") 913], #[]⟩) ::
  (nat_lit 426, ⟨.type "function", none, .func (fnOf (Str.ofString "as_bytes") (Str.ofString "FATDirectoryEntry.as_bytes") f16m25P f16m25B f16m25S .none .none .none (.str (Str.ofString "pyfatfs.FATDirectoryEntry") 714) none (.ref 425) .none), #[]⟩) ::
  (nat_lit 432, ⟨.type "code", none, .fields #[.str (Str.ofString "_add_parent") 915, .str (Str.ofString "FATDirectoryEntry._add_parent") 916, .str (Str.ofString "/claim/cut.py") 917, .int 282 0, .int 2 0, .int 0 0, .int 0 0, .int 3 0, .ref 427, .bool true, .int 181 0, .ref 428, .none, .ref 429, .ref 430, .ref 431, .int 920 0, .int 282 0, .str (Str.ofString "/claim/cut.py") 921], #[]⟩) ::
  (nat_lit 439, ⟨.type "code", none, .fields #[.str (Str.ofString "_get_parent_dir") 923, .str (Str.ofString "FATDirectoryEntry._get_parent_dir") 924, .str (Str.ofString "/claim/cut.py") 925, .int 289 0, .int 2 0, .int 0 0, .int 0 0, .int 3 0, .ref 434, .bool true, .int 181 0, .ref 435, .none, .ref 436, .ref 437, .ref 438, .int 928 0, .int 289 0, .str (Str.ofString "/claim/cut.py") 929], #[]⟩) ::
  (nat_lit 446, ⟨.type "code", none, .fields #[.str (Str.ofString "get_full_path") 931, .str (Str.ofString "FATDirectoryEntry.get_full_path") 932, .str (Str.ofString "/claim/cut.py") 933, .int 292 0, .int 1 0, .int 0 0, .int 0 0, .int 3 0, .ref 441, .bool true, .int 181 0, .ref 442, .none, .ref 443, .ref 444, .ref 445, .int 935 0, .int 292 0, .str (Str.ofString "/claim/cut.py") 936], #[]⟩) ::
  (nat_lit 453, ⟨.type "code", none, .fields #[.str (Str.ofString "get_parent_dir") 938, .str (Str.ofString "FATDirectoryEntry.get_parent_dir") 939, .str (Str.ofString "/claim/cut.py") 940, .int 295 0, .int 1 0, .int 0 0, .int 0 0, .int 3 0, .ref 448, .bool true, .int 181 0, .ref 449, .none, .ref 450, .ref 451, .ref 452, .int 942 0, .int 295 0, .str (Str.ofString "/claim/cut.py") 943], #[]⟩) ::
  (nat_lit 460, ⟨.type "code", none, .fields #[.str (Str.ofString "is_special") 945, .str (Str.ofString "FATDirectoryEntry.is_special") 946, .str (Str.ofString "/claim/cut.py") 947, .int 298 0, .int 1 0, .int 0 0, .int 0 0, .int 3 0, .ref 455, .bool true, .int 181 0, .ref 456, .none, .ref 457, .ref 458, .ref 459, .int 949 0, .int 298 0, .str (Str.ofString "/claim/cut.py") 950], #[]⟩) ::
  (nat_lit 467, ⟨.type "code", none, .fields #[.str (Str.ofString "is_read_only") 952, .str (Str.ofString "FATDirectoryEntry.is_read_only") 953, .str (Str.ofString "/claim/cut.py") 954, .int 301 0, .int 1 0, .int 0 0, .int 0 0, .int 3 0, .ref 462, .bool true, .int 181 0, .ref 463, .none, .ref 464, .ref 465, .ref 466, .int 956 0, .int 301 0, .str (Str.ofString "/claim/cut.py") 957], #[]⟩) ::
  (nat_lit 474, ⟨.type "code", none, .fields #[.str (Str.ofString "is_hidden") 959, .str (Str.ofString "FATDirectoryEntry.is_hidden") 960, .str (Str.ofString "/claim/cut.py") 961, .int 304 0, .int 1 0, .int 0 0, .int 0 0, .int 3 0, .ref 469, .bool true, .int 181 0, .ref 470, .none, .ref 471, .ref 472, .ref 473, .int 963 0, .int 304 0, .str (Str.ofString "/claim/cut.py") 964], #[]⟩) ::
  (nat_lit 481, ⟨.type "code", none, .fields #[.str (Str.ofString "is_system") 966, .str (Str.ofString "FATDirectoryEntry.is_system") 967, .str (Str.ofString "/claim/cut.py") 968, .int 307 0, .int 1 0, .int 0 0, .int 0 0, .int 3 0, .ref 476, .bool true, .int 181 0, .ref 477, .none, .ref 478, .ref 479, .ref 480, .int 970 0, .int 307 0, .str (Str.ofString "/claim/cut.py") 971], #[]⟩) ::
  (nat_lit 488, ⟨.type "code", none, .fields #[.str (Str.ofString "is_volume_id") 973, .str (Str.ofString "FATDirectoryEntry.is_volume_id") 974, .str (Str.ofString "/claim/cut.py") 975, .int 310 0, .int 1 0, .int 0 0, .int 0 0, .int 3 0, .ref 483, .bool true, .int 181 0, .ref 484, .none, .ref 485, .ref 486, .ref 487, .int 977 0, .int 310 0, .str (Str.ofString "/claim/cut.py") 978], #[]⟩) ::
  (nat_lit 495, ⟨.type "code", none, .fields #[.str (Str.ofString "_verify_is_directory") 980, .str (Str.ofString "FATDirectoryEntry._verify_is_directory") 981, .str (Str.ofString "/claim/cut.py") 982, .int 313 0, .int 1 0, .int 0 0, .int 0 0, .int 3 0, .ref 490, .bool true, .int 181 0, .ref 491, .none, .ref 492, .ref 493, .ref 494, .int 984 0, .int 313 0, .str (Str.ofString "/claim/cut.py") 985], #[]⟩) ::
  (nat_lit 502, ⟨.type "code", none, .fields #[.str (Str.ofString "is_directory") 987, .str (Str.ofString "FATDirectoryEntry.is_directory") 988, .str (Str.ofString "/claim/cut.py") 989, .int 317 0, .int 1 0, .int 0 0, .int 0 0, .int 3 0, .ref 497, .bool true, .int 181 0, .ref 498, .none, .ref 499, .ref 500, .ref 501, .int 991 0, .int 317 0, .str (Str.ofString "/claim/cut.py") 992], #[]⟩) ::
  (nat_lit 509, ⟨.type "code", none, .fields #[.str (Str.ofString "is_archive") 994, .str (Str.ofString "FATDirectoryEntry.is_archive") 995, .str (Str.ofString "/claim/cut.py") 996, .int 320 0, .int 1 0, .int 0 0, .int 0 0, .int 3 0, .ref 504, .bool true, .int 181 0, .ref 505, .none, .ref 506, .ref 507, .ref 508, .int 998 0, .int 320 0, .str (Str.ofString "/claim/cut.py") 999], #[]⟩) ::
  (nat_lit 516, ⟨.type "code", none, .fields #[.str (Str.ofString "is_empty") 1001, .str (Str.ofString "FATDirectoryEntry.is_empty") 1002, .str (Str.ofString "/claim/cut.py") 1003, .int 323 0, .int 1 0, .int 0 0, .int 0 0, .int 3 0, .ref 511, .bool true, .int 181 0, .ref 512, .none, .ref 513, .ref 514, .ref 515, .int 1005 0, .int 323 0, .str (Str.ofString "/claim/cut.py") 1006], #[]⟩) ::
  (nat_lit 523, ⟨.type "code", none, .fields #[.str (Str.ofString "_populate_dirs") 1008, .str (Str.ofString "FATDirectoryEntry._populate_dirs") 1009, .str (Str.ofString "/claim/cut.py") 1010, .int 326 0, .int 1 0, .int 0 0, .int 0 0, .int 3 0, .ref 518, .bool true, .int 181 0, .ref 519, .none, .ref 520, .ref 521, .ref 522, .int 1014 0, .int 326 0, .str (Str.ofString "/claim/cut.py") 1015], #[]⟩) ::
  (nat_lit 530, ⟨.type "code", none, .fields #[.str (Str.ofString "_get_entries_raw") 1017, .str (Str.ofString "FATDirectoryEntry._get_entries_raw") 1018, .str (Str.ofString "/claim/cut.py") 1019, .int 335 0, .int 1 0, .int 0 0, .int 0 0, .int 3 0, .ref 525, .bool true, .int 181 0, .ref 526, .none, .ref 527, .ref 528, .ref 529, .int 1021 0, .int 335 0, .str (Str.ofString "/claim/cut.py") 1022], #[]⟩) ::
  (nat_lit 537, ⟨.type "code", none, .fields #[.str (Str.ofString "get_entries") 1024, .str (Str.ofString "FATDirectoryEntry.get_entries") 1025, .str (Str.ofString "/claim/cut.py") 1026, .int 340 0, .int 1 0, .int 0 0, .int 0 0, .int 3 0, .ref 532, .bool true, .int 181 0, .ref 533, .none, .ref 534, .ref 535, .ref 536, .int 1032 0, .int 340 0, .str (Str.ofString "/claim/cut.py") 1033], #[]⟩) ::
  (nat_lit 544, ⟨.type "code", none, .fields #[.str (Str.ofString "_search_entry") 1035, .str (Str.ofString "FATDirectoryEntry._search_entry") 1036, .str (Str.ofString "/claim/cut.py") 1037, .int 353 0, .int 2 0, .int 0 0, .int 0 0, .int 3 0, .ref 539, .bool true, .int 181 0, .ref 540, .none, .ref 541, .ref 542, .ref 543, .int 1040 0, .int 353 0, .str (Str.ofString "/claim/cut.py") 1041], #[]⟩) ::
  (nat_lit 551, ⟨.type "code", none, .fields #[.str (Str.ofString "get_entry") 1043, .str (Str.ofString "FATDirectoryEntry.get_entry") 1044, .str (Str.ofString "/claim/cut.py") 1045, .int 356 0, .int 2 0, .int 0 0, .int 0 0, .int 3 0, .ref 546, .bool true, .int 181 0, .ref 547, .none, .ref 548, .ref 549, .ref 550, .int 1048 0, .int 356 0, .str (Str.ofString "/claim/cut.py") 1049], #[]⟩) ::
  (nat_lit 558, ⟨.type "code", none, .fields #[.str (Str.ofString "walk") 1051, .str (Str.ofString "FATDirectoryEntry.walk") 1052, .str (Str.ofString "/claim/cut.py") 1053, .int 359 0, .int 1 0, .int 0 0, .int 0 0, .int 3 0, .ref 553, .bool true, .int 181 0, .ref 554, .none, .ref 555, .ref 556, .ref 557, .int 1055 0, .int 359 0, .str (Str.ofString "/claim/cut.py") 1056], #[]⟩) ::
  (nat_lit 560, ⟨.type "tuple", none, .seq #[.bool true] 0, #[]⟩) ::
  (nat_lit 566, ⟨.type "code", none, .fields #[.str (Str.ofString "add_subdirectory") 1058, .str (Str.ofString "FATDirectoryEntry.add_subdirectory") 1059, .str (Str.ofString "/claim/cut.py") 1060, .int 362 0, .int 3 0, .int 0 0, .int 0 0, .int 3 0, .ref 561, .bool true, .int 181 0, .ref 562, .none, .ref 563, .ref 564, .ref 565, .int 1064 0, .int 362 0, .str (Str.ofString "/claim/cut.py") 1065], #[]⟩) ::
  (nat_lit 573, ⟨.type "code", none, .fields #[.str (Str.ofString "mark_empty") 1067, .str (Str.ofString "FATDirectoryEntry.mark_empty") 1068, .str (Str.ofString "/claim/cut.py") 1069, .int 365 0, .int 1 0, .int 0 0, .int 0 0, .int 3 0, .ref 568, .bool true, .int 181 0, .ref 569, .none, .ref 570, .ref 571, .ref 572, .int 1071 0, .int 365 0, .str (Str.ofString "/claim/cut.py") 1072], #[]⟩) ::
  (nat_lit 580, ⟨.type "code", none, .fields #[.str (Str.ofString "remove_dir_entry") 1074, .str (Str.ofString "FATDirectoryEntry.remove_dir_entry") 1075, .str (Str.ofString "/claim/cut.py") 1076, .int 368 0, .int 2 0, .int 0 0, .int 0 0, .int 3 0, .ref 575, .bool true, .int 181 0, .ref 576, .none, .ref 577, .ref 578, .ref 579, .int 1079 0, .int 368 0, .str (Str.ofString "/claim/cut.py") 1080], #[]⟩) ::
  (nat_lit 587, ⟨.type "code", none, .fields #[.str (Str.ofString "as_name") 1082, .str (Str.ofString "FATDirectoryEntry.as_name") 1083, .str (Str.ofString "/claim/cut.py") 1084, .int 371 0, .int 1 0, .int 0 0, .int 0 0, .int 3 0, .ref 582, .bool true, .int 181 0, .ref 583, .none, .ref 584, .ref 585, .ref 586, .int 1086 0, .int 371 0, .str (Str.ofString "/claim/cut.py") 1087], #[]⟩) ::
  (nat_lit 594, ⟨.type "code", none, .fields #[.str (Str.ofString "get_short_name") 1089, .str (Str.ofString "FATDirectoryEntry.get_short_name") 1090, .str (Str.ofString "/claim/cut.py") 1091, .int 374 0, .int 1 0, .int 0 0, .int 0 0, .int 3 0, .ref 589, .bool true, .int 181 0, .ref 590, .none, .ref 591, .ref 592, .ref 593, .int 1093 0, .int 374 0, .str (Str.ofString "/claim/cut.py") 1094], #[]⟩) ::
  (nat_lit 601, ⟨.type "code", none, .fields #[.str (Str.ofString "get_long_name") 1096, .str (Str.ofString "FATDirectoryEntry.get_long_name") 1097, .str (Str.ofString "/claim/cut.py") 1098, .int 377 0, .int 1 0, .int 0 0, .int 0 0, .int 3 0, .ref 596, .bool true, .int 181 0, .ref 597, .none, .ref 598, .ref 599, .ref 600, .int 1100 0, .int 377 0, .str (Str.ofString "/claim/cut.py") 1101], #[]⟩) ::
  (nat_lit 604, ⟨.type "dict", none, .dict #[⟨PyData.keyHash P (Str.ofString "__module__"), .str (Str.ofString "__module__") 723, .str (Str.ofString "pyfatfs.FATDirectoryEntry") 714⟩, ⟨PyData.keyHash P (Str.ofString "__firstlineno__"), .str (Str.ofString "__firstlineno__") 727, .int 187 726⟩, ⟨PyData.keyHash P (Str.ofString "FREE_DIR_ENTRY_MARK"), .str (Str.ofString "FREE_DIR_ENTRY_MARK") 729, .int 229 728⟩, ⟨PyData.keyHash P (Str.ofString "LAST_DIR_ENTRY_MARK"), .str (Str.ofString "LAST_DIR_ENTRY_MARK") 731, .int 0 730⟩, ⟨PyData.keyHash P (Str.ofString "ATTR_READ_ONLY"), .str (Str.ofString "ATTR_READ_ONLY") 733, .int 1 732⟩, ⟨PyData.keyHash P (Str.ofString "ATTR_HIDDEN"), .str (Str.ofString "ATTR_HIDDEN") 735, .int 2 734⟩, ⟨PyData.keyHash P (Str.ofString "ATTR_SYSTEM"), .str (Str.ofString "ATTR_SYSTEM") 737, .int 4 736⟩, ⟨PyData.keyHash P (Str.ofString "ATTR_VOLUME_ID"), .str (Str.ofString "ATTR_VOLUME_ID") 739, .int 8 738⟩, ⟨PyData.keyHash P (Str.ofString "ATTR_DIRECTORY"), .str (Str.ofString "ATTR_DIRECTORY") 741, .int 16 740⟩, ⟨PyData.keyHash P (Str.ofString "ATTR_ARCHIVE"), .str (Str.ofString "ATTR_ARCHIVE") 743, .int 32 742⟩, ⟨PyData.keyHash P (Str.ofString "ATTR_LONG_NAME"), .str (Str.ofString "ATTR_LONG_NAME") 745, .int 15 744⟩, ⟨PyData.keyHash P (Str.ofString "ATTR_LONG_NAME_MASK"), .str (Str.ofString "ATTR_LONG_NAME_MASK") 747, .int 63 746⟩, ⟨PyData.keyHash P (Str.ofString "FAT_DIRECTORY_HEADER_SIZE"), .str (Str.ofString "FAT_DIRECTORY_HEADER_SIZE") 749, .int 32 748⟩, ⟨PyData.keyHash P (Str.ofString "MAX_FILE_SIZE"), .str (Str.ofString "MAX_FILE_SIZE") 751, .int 4294967295 750⟩, ⟨PyData.keyHash P (Str.ofString "FAT_DIRECTORY_VARS"), .str (Str.ofString "FAT_DIRECTORY_VARS") 764, .ref 327⟩, ⟨PyData.keyHash P (Str.ofString "__init__"), .str (Str.ofString "__init__") 787, .ref 335⟩, ⟨PyData.keyHash P (Str.ofString "set_size"), .str (Str.ofString "set_size") 795, .ref 342⟩, ⟨PyData.keyHash P (Str.ofString "new"), .str (Str.ofString "new") 824, .ref 352⟩, ⟨PyData.keyHash P (Str.ofString "get_ctime"), .str (Str.ofString "get_ctime") 831, .ref 360⟩, ⟨PyData.keyHash P (Str.ofString "get_mtime"), .str (Str.ofString "get_mtime") 838, .ref 367⟩, ⟨PyData.keyHash P (Str.ofString "get_atime"), .str (Str.ofString "get_atime") 845, .ref 374⟩, ⟨PyData.keyHash P (Str.ofString "_combine_dosdatetime"), .str (Str.ofString "_combine_dosdatetime") 865, .ref 383⟩, ⟨PyData.keyHash P (Str.ofString "get_checksum"), .str (Str.ofString "get_checksum") 872, .ref 391⟩, ⟨PyData.keyHash P (Str.ofString "set_lfn_entry"), .str (Str.ofString "set_lfn_entry") 883, .ref 398⟩, ⟨PyData.keyHash P (Str.ofString "get_entry_size"), .str (Str.ofString "get_entry_size") 890, .ref 405⟩, ⟨PyData.keyHash P (Str.ofString "get_cluster"), .str (Str.ofString "get_cluster") 897, .ref 412⟩, ⟨PyData.keyHash P (Str.ofString "set_cluster"), .str (Str.ofString "set_cluster") 905, .ref 419⟩, ⟨PyData.keyHash P (Str.ofString "as_bytes"), .str (Str.ofString "as_bytes") 914, .ref 426⟩, ⟨PyData.keyHash P (Str.ofString "_add_parent"), .str (Str.ofString "_add_parent") 922, .ref 433⟩, ⟨PyData.keyHash P (Str.ofString "_get_parent_dir"), .str (Str.ofString "_get_parent_dir") 930, .ref 440⟩, ⟨PyData.keyHash P (Str.ofString "get_full_path"), .str (Str.ofString "get_full_path") 937, .ref 447⟩, ⟨PyData.keyHash P (Str.ofString "get_parent_dir"), .str (Str.ofString "get_parent_dir") 944, .ref 454⟩, ⟨PyData.keyHash P (Str.ofString "is_special"), .str (Str.ofString "is_special") 951, .ref 461⟩, ⟨PyData.keyHash P (Str.ofString "is_read_only"), .str (Str.ofString "is_read_only") 958, .ref 468⟩, ⟨PyData.keyHash P (Str.ofString "is_hidden"), .str (Str.ofString "is_hidden") 965, .ref 475⟩, ⟨PyData.keyHash P (Str.ofString "is_system"), .str (Str.ofString "is_system") 972, .ref 482⟩, ⟨PyData.keyHash P (Str.ofString "is_volume_id"), .str (Str.ofString "is_volume_id") 979, .ref 489⟩, ⟨PyData.keyHash P (Str.ofString "_verify_is_directory"), .str (Str.ofString "_verify_is_directory") 986, .ref 496⟩, ⟨PyData.keyHash P (Str.ofString "is_directory"), .str (Str.ofString "is_directory") 993, .ref 503⟩, ⟨PyData.keyHash P (Str.ofString "is_archive"), .str (Str.ofString "is_archive") 1000, .ref 510⟩, ⟨PyData.keyHash P (Str.ofString "is_empty"), .str (Str.ofString "is_empty") 1007, .ref 517⟩, ⟨PyData.keyHash P (Str.ofString "_populate_dirs"), .str (Str.ofString "_populate_dirs") 1016, .ref 524⟩, ⟨PyData.keyHash P (Str.ofString "_get_entries_raw"), .str (Str.ofString "_get_entries_raw") 1023, .ref 531⟩, ⟨PyData.keyHash P (Str.ofString "get_entries"), .str (Str.ofString "get_entries") 1034, .ref 538⟩, ⟨PyData.keyHash P (Str.ofString "_search_entry"), .str (Str.ofString "_search_entry") 1042, .ref 545⟩, ⟨PyData.keyHash P (Str.ofString "get_entry"), .str (Str.ofString "get_entry") 1050, .ref 552⟩, ⟨PyData.keyHash P (Str.ofString "walk"), .str (Str.ofString "walk") 1057, .ref 559⟩, ⟨PyData.keyHash P (Str.ofString "add_subdirectory"), .str (Str.ofString "add_subdirectory") 1066, .ref 567⟩, ⟨PyData.keyHash P (Str.ofString "mark_empty"), .str (Str.ofString "mark_empty") 1073, .ref 574⟩, ⟨PyData.keyHash P (Str.ofString "remove_dir_entry"), .str (Str.ofString "remove_dir_entry") 1081, .ref 581⟩, ⟨PyData.keyHash P (Str.ofString "as_name"), .str (Str.ofString "as_name") 1088, .ref 588⟩, ⟨PyData.keyHash P (Str.ofString "get_short_name"), .str (Str.ofString "get_short_name") 1095, .ref 595⟩, ⟨PyData.keyHash P (Str.ofString "get_long_name"), .str (Str.ofString "get_long_name") 1102, .ref 602⟩, ⟨PyData.keyHash P (Str.ofString "__static_attributes__"), .str (Str.ofString "__static_attributes__") 1121, .ref 603⟩, ⟨PyData.keyHash P (Str.ofString "__dict__"), .str (Str.ofString "__dict__") 1123, .ref 606⟩, ⟨PyData.keyHash P (Str.ofString "__weakref__"), .str (Str.ofString "__weakref__") 1125, .ref 607⟩, ⟨PyData.keyHash P (Str.ofString "__doc__"), .str (Str.ofString "__doc__") 1126, .none⟩] 4, #[]⟩) ::
  (nat_lit 605, ⟨.type "type", none, .cls { name := (Str.ofString "FATDirectoryEntry"), bases := [.type "object"], mro := [.ref 605, .type "object"], ns := 604, qualname := (Str.ofString "FATDirectoryEntry"), hasDict := true, slotNames := [], subclasses := [], abstract := false, collection := none, hasDel := false }, #[none, none, some (.str (Str.ofString "FATDirectoryEntry") 716), some (.str (Str.ofString "FATDirectoryEntry") 724), some (.builtin "object.__new__"), some (.bool true)]⟩) ::
  (nat_lit 617, ⟨.type "list", none, .seq #[.str (Str.ofString "LDIR_Ord") 1141, .str (Str.ofString "LDIR_Name1") 1142, .str (Str.ofString "LDIR_Attr") 1143, .str (Str.ofString "LDIR_Type") 1144, .str (Str.ofString "LDIR_Chksum") 1145, .str (Str.ofString "LDIR_Name2") 1146, .str (Str.ofString "LDIR_FstClusLO") 1147, .str (Str.ofString "LDIR_Name3") 1148] 0, #[]⟩) ::
  (nat_lit 623, ⟨.type "code", none, .fields #[.str (Str.ofString "__init__") 1154, .str (Str.ofString "FATLongDirectoryEntry.__init__") 1155, .str (Str.ofString "/claim/cut.py") 1156, .int 384 0, .int 1 0, .int 0 0, .int 0 0, .int 3 0, .ref 618, .bool true, .int 181 0, .ref 619, .none, .ref 620, .ref 621, .ref 622, .int 1158 0, .int 384 0, .str (Str.ofString "/claim/cut.py") 1159], #[]⟩) ::
  (nat_lit 625, ⟨.type "tuple", none, .seq #[.bool false] 0, #[]⟩) ::
  (nat_lit 631, ⟨.type "code", none, .fields #[.str (Str.ofString "get_entries") 1161, .str (Str.ofString "FATLongDirectoryEntry.get_entries") 1162, .str (Str.ofString "/claim/cut.py") 1163, .int 387 0, .int 2 0, .int 0 0, .int 0 0, .int 35 0, .ref 626, .bool true, .int 181 0, .ref 627, .none, .ref 628, .ref 629, .ref 630, .int 1168 0, .int 387 0, .str (Str.ofString "/claim/cut.py") 1169], #[]⟩) ::
  (nat_lit 638, ⟨.type "code", none, .fields #[.str (Str.ofString "mark_empty") 1171, .str (Str.ofString "FATLongDirectoryEntry.mark_empty") 1172, .str (Str.ofString "/claim/cut.py") 1173, .int 391 0, .int 1 0, .int 0 0, .int 0 0, .int 3 0, .ref 633, .bool true, .int 181 0, .ref 634, .none, .ref 635, .ref 636, .ref 637, .int 1175 0, .int 391 0, .str (Str.ofString "/claim/cut.py") 1176], #[]⟩) ::
  (nat_lit 645, ⟨.type "code", none, .fields #[.str (Str.ofString "as_bytes") 1178, .str (Str.ofString "FATLongDirectoryEntry.as_bytes") 1179, .str (Str.ofString "/claim/cut.py") 1180, .int 394 0, .int 1 0, .int 0 0, .int 0 0, .int 3 0, .ref 640, .bool true, .int 181 0, .ref 641, .none, .ref 642, .ref 643, .ref 644, .int 1184 0, .int 394 0, .str (Str.ofString "/claim/cut.py") 1185], #[]⟩) ::
  (nat_lit 652, ⟨.type "code", none, .fields #[.str (Str.ofString "as_text") 1187, .str (Str.ofString "FATLongDirectoryEntry.as_text") 1188, .str (Str.ofString "/claim/cut.py") 1189, .int 403 0, .int 1 0, .int 0 0, .int 0 0, .int 3 0, .ref 647, .bool true, .int 181 0, .ref 648, .none, .ref 649, .ref 650, .ref 651, .int 1194 0, .int 403 0, .str (Str.ofString "/claim/cut.py") 1195], #[]⟩) ::
  (nat_lit 659, ⟨.type "code", none, .fields #[.str (Str.ofString "is_lfn_entry") 1197, .str (Str.ofString "FATLongDirectoryEntry.is_lfn_entry") 1198, .str (Str.ofString "/claim/cut.py") 1199, .int 415 0, .int 2 0, .int 0 0, .int 0 0, .int 3 0, .ref 654, .bool true, .int 181 0, .ref 655, .none, .ref 656, .ref 657, .ref 658, .int 1202 0, .int 415 0, .str (Str.ofString "/claim/cut.py") 1203], #[]⟩) ::
  (nat_lit 662, ⟨.type "staticmethod", (some 661), .fields #[.ref 660, .bool false], #[]⟩) ::
  (nat_lit 669, ⟨.type "code", none, .fields #[.str (Str.ofString "add_lfn_entry") 1217, .str (Str.ofString "FATLongDirectoryEntry.add_lfn_entry") 1218, .str (Str.ofString "/claim/cut.py") 1219, .int 419 0, .int 9 0, .int 0 0, .int 0 0, .int 3 0, .ref 664, .bool true, .int 181 0, .ref 665, .none, .ref 666, .ref 667, .ref 668, .int 1229 0, .int 419 0, .str (Str.ofString "/claim/cut.py") 1230], #[]⟩) ::
  (nat_lit 676, ⟨.type "code", none, .fields #[.str (Str.ofString "is_lfn_entry_complete") 1232, .str (Str.ofString "FATLongDirectoryEntry.is_lfn_entry_complete") 1233, .str (Str.ofString "/claim/cut.py") 1234, .int 422 0, .int 1 0, .int 0 0, .int 0 0, .int 3 0, .ref 671, .bool true, .int 181 0, .ref 672, .none, .ref 673, .ref 674, .ref 675, .int 1236 0, .int 422 0, .str (Str.ofString "/claim/cut.py") 1237], #[]⟩) ::
  (nat_lit 679, ⟨.type "dict", none, .dict #[⟨PyData.keyHash P (Str.ofString "__module__"), .str (Str.ofString "__module__") 1136, .str (Str.ofString "pyfatfs.FATDirectoryEntry") 714⟩, ⟨PyData.keyHash P (Str.ofString "__firstlineno__"), .str (Str.ofString "__firstlineno__") 1140, .int 379 1139⟩, ⟨PyData.keyHash P (Str.ofString "FAT_LONG_DIRECTORY_VARS"), .str (Str.ofString "FAT_LONG_DIRECTORY_VARS") 1149, .ref 617⟩, ⟨PyData.keyHash P (Str.ofString "LAST_LONG_ENTRY"), .str (Str.ofString "LAST_LONG_ENTRY") 1151, .int 64 1150⟩, ⟨PyData.keyHash P (Str.ofString "LFN_ENTRY_LENGTH"), .str (Str.ofString "LFN_ENTRY_LENGTH") 1153, .int 26 1152⟩, ⟨PyData.keyHash P (Str.ofString "__init__"), .str (Str.ofString "__init__") 1160, .ref 624⟩, ⟨PyData.keyHash P (Str.ofString "get_entries"), .str (Str.ofString "get_entries") 1170, .ref 632⟩, ⟨PyData.keyHash P (Str.ofString "mark_empty"), .str (Str.ofString "mark_empty") 1177, .ref 639⟩, ⟨PyData.keyHash P (Str.ofString "as_bytes"), .str (Str.ofString "as_bytes") 1186, .ref 646⟩, ⟨PyData.keyHash P (Str.ofString "as_text"), .str (Str.ofString "as_text") 1196, .ref 653⟩, ⟨PyData.keyHash P (Str.ofString "is_lfn_entry"), .str (Str.ofString "is_lfn_entry") 1216, .ref 662⟩, ⟨PyData.keyHash P (Str.ofString "add_lfn_entry"), .str (Str.ofString "add_lfn_entry") 1231, .ref 670⟩, ⟨PyData.keyHash P (Str.ofString "is_lfn_entry_complete"), .str (Str.ofString "is_lfn_entry_complete") 1238, .ref 677⟩, ⟨PyData.keyHash P (Str.ofString "__static_attributes__"), .str (Str.ofString "__static_attributes__") 1240, .ref 678⟩, ⟨PyData.keyHash P (Str.ofString "__dict__"), .str (Str.ofString "__dict__") 1242, .ref 681⟩, ⟨PyData.keyHash P (Str.ofString "__weakref__"), .str (Str.ofString "__weakref__") 1244, .ref 682⟩, ⟨PyData.keyHash P (Str.ofString "__doc__"), .str (Str.ofString "__doc__") 1245, .none⟩] 4, #[]⟩) ::
  (nat_lit 680, ⟨.type "type", none, .cls { name := (Str.ofString "FATLongDirectoryEntry"), bases := [.type "object"], mro := [.ref 680, .type "object"], ns := 679, qualname := (Str.ofString "FATLongDirectoryEntry"), hasDict := true, slotNames := [], subclasses := [], abstract := false, collection := none, hasDel := false }, #[some (.ref 610), none, some (.str (Str.ofString "FATLongDirectoryEntry") 1129), some (.str (Str.ofString "FATLongDirectoryEntry") 1137), some (.builtin "object.__new__"), some (.bool true)]⟩) ::
  (nat_lit 690, ⟨.type "code", none, .fields #[.str (Str.ofString "_law_length") 1250, .str (Str.ofString "_law_length") 1251, .str (Str.ofString "/claim/cut.py") 1252, .int 425 0, .int 2 0, .int 0 0, .int 0 0, .int 3 0, .ref 685, .bool true, .int 181 0, .ref 686, .none, .ref 687, .ref 688, .ref 689, .int 1255 0, .int 425 0, .str (Str.ofString "/claim/cut.py") 1256], #[]⟩) ::
  (nat_lit 691, ⟨.type "function", none, .func (fnOf (Str.ofString "_law_length") (Str.ofString "_law_length") f19P f19B f19S .none .none .none (.str (Str.ofString "law_jj0020_02") 1248) none (.ref 690) .none), #[]⟩) ::
  (nat_lit 697, ⟨.type "code", none, .fields #[.str (Str.ofString "_law_date") 1258, .str (Str.ofString "_law_date") 1259, .str (Str.ofString "/claim/cut.py") 1260, .int 429 0, .int 1 0, .int 0 0, .int 0 0, .int 3 0, .ref 692, .bool true, .int 181 0, .ref 693, .none, .ref 694, .ref 695, .ref 696, .int 1266 0, .int 429 0, .str (Str.ofString "/claim/cut.py") 1267], #[]⟩) ::
  (nat_lit 698, ⟨.type "function", none, .func (fnOf (Str.ofString "_law_date") (Str.ofString "_law_date") f20P f20B f20S .none .none .none (.str (Str.ofString "law_jj0020_02") 1248) none (.ref 697) .none), #[]⟩) ::
  (nat_lit 704, ⟨.type "code", none, .fields #[.str (Str.ofString "_law_clock") 1269, .str (Str.ofString "_law_clock") 1270, .str (Str.ofString "/claim/cut.py") 1271, .int 436 0, .int 1 0, .int 0 0, .int 0 0, .int 3 0, .ref 699, .bool true, .int 181 0, .ref 700, .none, .ref 701, .ref 702, .ref 703, .int 1277 0, .int 436 0, .str (Str.ofString "/claim/cut.py") 1278], #[]⟩) ::
  (nat_lit 705, ⟨.type "function", none, .func (fnOf (Str.ofString "_law_clock") (Str.ofString "_law_clock") f21P f21B f21S .none .none .none (.str (Str.ofString "law_jj0020_02") 1248) none (.ref 704) .none), #[]⟩) ::
  (nat_lit 711, ⟨.type "code", none, .fields #[.str (Str.ofString "_law_count") 1280, .str (Str.ofString "_law_count") 1281, .str (Str.ofString "/claim/cut.py") 1282, .int 442 0, .int 1 0, .int 0 0, .int 0 0, .int 3 0, .ref 706, .bool true, .int 181 0, .ref 707, .none, .ref 708, .ref 709, .ref 710, .int 1288 0, .int 442 0, .str (Str.ofString "/claim/cut.py") 1289], #[]⟩) ::
  (nat_lit 712, ⟨.type "function", none, .func (fnOf (Str.ofString "_law_count") (Str.ofString "_law_count") f22P f22B f22S .none .none .none (.str (Str.ofString "law_jj0020_02") 1248) none (.ref 711) .none), #[]⟩) ::
  (nat_lit 718, ⟨.type "code", none, .fields #[.str (Str.ofString "_law_six") 1291, .str (Str.ofString "_law_six") 1292, .str (Str.ofString "/claim/cut.py") 1293, .int 457 0, .int 1 0, .int 0 0, .int 0 0, .int 3 0, .ref 713, .bool true, .int 181 0, .ref 714, .none, .ref 715, .ref 716, .ref 717, .int 1295 0, .int 457 0, .str (Str.ofString "/claim/cut.py") 1296], #[]⟩) ::
  (nat_lit 719, ⟨.type "function", none, .func (fnOf (Str.ofString "_law_six") (Str.ofString "_law_six") f23P f23B f23S .none .none .none (.str (Str.ofString "law_jj0020_02") 1248) none (.ref 718) .none), #[]⟩) ::
  (nat_lit 725, ⟨.type "code", none, .fields #[.str (Str.ofString "_law_clocks") 1298, .str (Str.ofString "_law_clocks") 1299, .str (Str.ofString "/claim/cut.py") 1300, .int 459 0, .int 1 0, .int 0 0, .int 0 0, .int 3 0, .ref 720, .bool true, .int 181 0, .ref 721, .none, .ref 722, .ref 723, .ref 724, .int 1304 0, .int 459 0, .str (Str.ofString "/claim/cut.py") 1305], #[]⟩) ::
  (nat_lit 726, ⟨.type "function", none, .func (fnOf (Str.ofString "_law_clocks") (Str.ofString "_law_clocks") f24P f24B f24S .none .none .none (.str (Str.ofString "law_jj0020_02") 1248) none (.ref 725) .none), #[]⟩) ::
  (nat_lit 732, ⟨.type "code", none, .fields #[.str (Str.ofString "_law_pair") 1307, .str (Str.ofString "_law_pair") 1308, .str (Str.ofString "/claim/cut.py") 1309, .int 465 0, .int 1 0, .int 0 0, .int 0 0, .int 3 0, .ref 727, .bool true, .int 181 0, .ref 728, .none, .ref 729, .ref 730, .ref 731, .int 1311 0, .int 465 0, .str (Str.ofString "/claim/cut.py") 1312], #[]⟩) ::
  (nat_lit 733, ⟨.type "function", none, .func (fnOf (Str.ofString "_law_pair") (Str.ofString "_law_pair") f25P f25B f25S .none .none .none (.str (Str.ofString "law_jj0020_02") 1248) none (.ref 732) .none), #[]⟩) ::
  (nat_lit 737, ⟨.type "code", none, .fields #[.str (Str.ofString "law") 1314, .str (Str.ofString "law") 1315, .str (Str.ofString "/claim/cut.py") 1316, .int 467 0, .int 1 0, .int 0 0, .int 0 0, .int 3 0, .ref 734, .bool true, .int 181 0, .ref 735, .none, .none, .none, .ref 736, .int 1317 0, .int 467 0, .str (Str.ofString "/claim/cut.py") 1318], #[]⟩) ::
  (nat_lit 738, ⟨.type "function", none, .func (fnOf (Str.ofString "law") (Str.ofString "law") f26P f26B f26S .none .none .none (.str (Str.ofString "law_jj0020_02") 1248) none (.ref 737) .none), #[]⟩) ::
  []
noncomputable def KA : List Addr := [2, 3, 20, 34, 35, 37, 38, 50, 56, 57, 63, 64, 66, 73, 74, 80, 81, 87, 88, 90, 97, 98, 100, 103, 104, 117, 124, 127, 128, 140, 141, 158, 161, 162, 174, 175, 183, 188, 195, 204, 205, 211, 212, 218, 225, 232, 239, 242, 249, 250, 256, 257, 263, 270, 277, 280, 282, 288, 291, 298, 301, 308, 311, 314, 315, 327, 328, 334, 335, 341, 342, 343, 349, 352, 359, 360, 366, 367, 373, 374, 380, 381, 383, 390, 397, 398, 404, 411, 418, 425, 426, 432, 439, 446, 453, 460, 467, 474, 481, 488, 495, 502, 509, 516, 523, 530, 537, 544, 551, 558, 560, 566, 573, 580, 587, 594, 601, 604, 605, 617, 623, 625, 631, 638, 645, 652, 659, 662, 669, 676, 679, 680, 690, 691, 697, 698, 704, 705, 711, 712, 718, 719, 725, 726, 732, 733, 737, 738]
noncomputable def VW : Program := view PW [26]
noncomputable abbrev LO : List Str := [Str.ofString "_wall", Str.ofString "DosTime", Str.ofString "DosDateTime", Str.ofString "PyFATException", Str.ofString "BrokenLFNEntryException", Str.ofString "NotAFatEntryException", Str.ofString "errno", Str.ofString "FAT_OEM_ENCODING", Str.ofString "decoded", Str.ofString "decoded16", Str.ofString "init_check", Str.ofString "EightDotThree", Str.ofString "FATDirectoryEntry", Str.ofString "FATLongDirectoryEntry", Str.ofString "_law_length", Str.ofString "_law_date", Str.ofString "_law_clock", Str.ofString "_law_count", Str.ofString "_law_six", Str.ofString "_law_clocks", Str.ofString "_law_pair"]
noncomputable def bootT (w : World) (os : OsState) : SharedT :=
  ⟨.node (boot_o_0 w.params) (.node (boot_o_1 w.params) (.node (boot_o_3 w.params) (.node (boot_o_7 w.params) .nil .nil) .nil) (.node (boot_o_5 w.params) (.node (boot_o_9 w.params) .nil .nil) .nil))
    (.node (boot_o_2 w.params) (.node (boot_o_4 w.params) (.node (boot_o_8 w.params) .nil .nil) .nil) (.node (boot_o_6 w.params) (.node (boot_o_10 w.params) .nil .nil) .nil)), 11, {}, #[], boot_drawn, boot_toks, os⟩
theorem boot_abs (w : World) (os : OsState) : (bootT w os).abs = ⟨boot_heap w.params, Array.mk [], boot_drawn, boot_toks, os⟩ := rfl
theorem size1 : ∀ w : World, ((boot_heap w.params).isNs mainGlobals && (Array.mk [] : Array GenState).size == 0, (boot_heap w.params).objs.size, (boot_heap w.params).nsMap mainGlobals "__annotations__") = (true, 11, some (.ref 6)) := fun w => by
  kernel_rfl
noncomputable abbrev HK : Hook := kHook KK KA (fun _ => by kernel_rfl)
theorem run1 : ∀ (w : World) (os : OsState), (PySem.W.Fast.tw10110043849684766642 PySem.W.Fast.tw14364793385576792824 PW w 11 (some (.ref 6)) 0 6400 (bootT w os) (topStub PW)).map (fun r =>
        ((staticsOk [] (boot_heap w.params) r.2.1.abs.heap && namesBound PW r.2.1.abs.heap && gensDone r.2.1.abs && laidKept (boot_heap w.params) r.2.1.abs.heap),
          PySem.W.Fast.tw4187177175401517315 VW LO [] (fun s => xlAt VW [] s && recOk [] s) true r.2.1.abs, KA.map r.2.1.abs.heap.get?)) = some (true, openGood VW LO, (KK w.params).map fun p => some p.2) := fun w os => by kernel_rfl
theorem said0 : PySem.W.Fast.tw9446332074065402090 PySem.Challenge.rw_jj0020_02 = true := by kernel_rfl
theorem said : PySem.Challenge.rw_jj0020_02.wellSaid = true := by rw [show @OpenLaw.wellSaid = _ from PySem.W.Fast.te9446332074065402090]; exact said0
theorem fence1 : ∀ s, fenceModules? PW s = some s := fun s => rfl
theorem opens1 : opening PW = plainProg PW.main.scope.names := by kernel_rfl
theorem left1 : LeftO PW VW LO (fun s => xlAt VW [] s && recOk [] s) HK.obs HK.val 6500 :=
  left_one (mods := []) (by kernel_rfl) (boot_open opens1 (by decide) fence1) size1 boot_abs (M := 6400) (by decide) (fun w os => by
    have h := run1 w os
    rw [← show @segRunT = _ from PySem.W.Fast.te10110043849684766642, ← show @treeTable = _ from PySem.W.Fast.te14364793385576792824, ← show @openSeen = _ from PySem.W.Fast.te4187177175401517315] at h
    exact h)
noncomputable def fdPos (i : Nat) : Pos := match PW.main.body[i]? with
  | some (.FunctionDef _ _ _ _ _ _ _ _ _ pos) => pos
  | _ => default
noncomputable abbrev lawD : DefRec := ⟨Str.ofString "law", f26P, f26B, f26S, lit (fdPos 26) _ (by conv => lhs; whnf)⟩
theorem hd (walk : WalkO VW LO (XL VW []) HK.says PySem.Challenge.rw_jj0020_02.row.toRowW lawD [] (fun f vs => PySem.call f vs)) : PySem.Challenge.rw_jj0020_02.Holds := by
  refine holds_law said fun said => ?_
  refine holds_open (q := VW) (loose := LO) (Xt := fun s => xlAt VW [] s && recOk [] s) (XP := XL VW []) (Yf := HK.obs) (Ya := HK.val) (YP := HK.says) (N := 6500) (d := lawD) (kwd := []) left1 HK.of HK.keeps (fun s e => xl_of s (Bool.and_eq_true_iff.mp e).1) XL.keeps ?_ ?_ ?_ (fun s e => recFacts_of (Bool.and_eq_true_iff.mp e).2) (by rfl) said ?_ ⟨rfl, rfl, rfl, rfl, rfl, by decide +kernel⟩ ?hw walk
  · kernel_rfl
  · kernel_rfl
  · kernel_rfl
  · decide +kernel
  case hw => w_witness2
section
noncomputable abbrev PR : Program := PySem.Challenge.rw_jj0020_02.row.prog
theorem fillK : PySem.Challenge.rw_jj0020_02 = PySem.Challenge.rw_jj0020_02 ∧ KK = KK := by k_fill; exact ⟨rfl, rfl⟩

/-- a frame's map by what is known of it -/
noncomputable def fo (l : List (Str × Value)) (u : Str → Option Value) : Str → Option Value := fun y => match l.lookup y with
  | some v => some v
  | none => u y
theorem fo_of {m : Str → Option Value} : ∀ {l : List (Str × Value)}, (∀ p ∈ l, m p.1 = some p.2) → fo l m = m := fun {l} h => by
  funext y
  unfold fo
  cases e : l.lookup y with
  | none => rfl
  | some v =>
    have : (y, v) ∈ l := by
      clear h
      induction l with
      | nil => cases e
      | cons q r ih =>
        obtain ⟨x, z⟩ := q
        rw [List.lookup_cons] at e
        by_cases hq : (y == x) = true
        · rw [hq] at e; cases e; rw [beq_iff_eq.mp hq]; exact .head _
        · simp only [hq] at e; exact .tail _ (ih e)
    exact (h _ this).symm

theorem fo_nil {u : Str → Option Value} : fo [] u = u := rfl
theorem fo_cons {l : List (Str × Value)} {u : Str → Option Value} {x : Str} {v : Value} (h : u x = some v) (e : fo l u = u) : fo ((x, v) :: l) u = u := by
  funext y
  show (match ((x, v) :: l).lookup y with | some v => some v | none => u y) = u y
  rw [List.lookup_cons]
  cases q : y == x with
  | true => rw [beq_iff_eq.mp q]; exact h.symm
  | false => exact congrFun e y
@[irreducible] noncomputable def lawLen (y m : Int) : Int := if m = 2 then (if y.fmod 4 = 0 ∧ y ≠ 2100 then 29 else 28) else if m = 4 ∨ m = 6 ∨ m = 9 ∨ m = 11 then 30 else 31

/-- the kit's rule for a def's call, its premises in the order in which they are found -/
theorem code_defR {prog : Program} {w : World} {A A₀ : Around} {s : Shared} {K : Frag} {L : Addr} {h₀ base : Heap} {m : Str → Option Value} {mg mb : Str → Option Value} {news : List (Addr × Obj)} {p : Program} {loose : List Str} {mean : ExcName → Option Value}
    {env : Env} {outer : List Env} {R : Result → Shared → Prop} {name qual : Str} {params : Arguments} {body : List Stmt} {scope : Scope} {dV kV doc pm cdv ct oc : Value} {an od : Option Addr} {osl : Array (Option Value)} {f : Addr} {args : Args} {binds : List (Str × Value)}
    (hA : A.frames = some (env :: outer)) (hf : env.frame = some L) (hke : env.scope.kind = .function) (B : Below A₀ base outer h₀) (F : Fr h₀ L s.heap m) (X₀ : K.In h₀) (N : News h₀ L s.heap news) (T : Top p loose mean mg mb h₀)
    (ho : K.lookup f = some ⟨oc, od, .func (fnOf name qual params body scope dV kV doc pm an cdv ct), osl⟩) (hcd : codeIn K cdv qual = true) (hroom : A.depth < recursionLimit)
    (hbind : BindsTo s (fnOf name qual params body scope dV kV doc pm an cdv ct) args binds) (hloc : ∀ y ∈ binds, scope.names.lookup y.1 = some .local)
    (h : ∀ g L' h₁, Fr h₀ L g m → Fr g L' h₁ (fun y => binds.reverse.lookup y) → News g L' h₁ news → Below A base (env :: outer) g → K.In g → Top p loose mean mg mb g →
      wpAny (model prog w) (A.deeper (envOf qual scope L' f cdv)) (execs body (envOf qual scope L' f cdv))
        (fun fl s' => LeaveK h₀ L m g R (match fl with | .ret v => v | _ => .none) s')
        (fun e s' => wpAny (model prog w) (A.deeper (envOf qual scope L' f cdv)) (leaving (envOf qual scope L' f cdv) e) (fun _ s'' => R (.error e) s'') (fun e' s'' => R (.error e') s'') s')
        { s with heap := h₁, toks := s.toks + binds.length })
    (hco : scope.isCoroutine = false) (hgen : scope.isGenerator = false) (hk : scope.kind = .function)
    (hcell : ∀ x ∈ scope.names, x.2 ≠ .cell) : codeAny (model prog w) A (.call (.ref f) args) R s :=
  code_def B F X₀ N T hA hf hke ho hcd hroom hbind hloc h hco hgen hk hcell

noncomputable def nthSt (l : List Stmt) (i : Nat) : Stmt := match l[i]? with
  | some st => st
  | none => .Pass default
theorem room0 {a b R : Nat} (h : a + b < R) : a < R := Nat.lt_of_le_of_lt (Nat.le_add_right a b) h
theorem room1 {a b c R : Nat} (h : a + b < R) (hc : c ≤ b) : a + c < R := Nat.lt_of_le_of_lt (Nat.add_le_add_left hc a) h
theorem room2 {a b c d R : Nat} (h : a + b < R) (hc : c + d ≤ b) : a + c + d < R := by rw [Nat.add_assoc]; exact room1 h hc
theorem room3 {a b c d e R : Nat} (h : a + b < R) (hc : c + d + e ≤ b) : a + c + d + e < R := by rw [Nat.add_assoc, Nat.add_assoc, ← Nat.add_assoc c]; exact room1 h hc
noncomputable abbrev ktrH (hdl : Option Value) (dp un : Nat) (gd : Option (List Code)) (cn : Str) (cs : Scope) (L a : Addr) (ccd : Value) (cl : List (Str × Addr)) (outer : List Env) : Around := { handled := hdl, depth := dp, frames := some (envX cn cs L a ccd cl :: outer), guards := gd, units := un }
theorem depth_mark (A : Around) (h : Option Value) : (A.mark h).depth = A.depth := rfl
theorem units_under_kw (A : Around) (C : Addr) (vals : List Value) (kw : List (Str × Value)) : (A.under (.builtin "type.__call__" ⟨.ref C :: vals, kw⟩)).units = A.units + 1 := rfl
theorem tab12 : ∀ k : Nat, k < 13 → 1 ≤ k → k ≠ 2 → (if (k : Int) = 4 ∨ (k : Int) = 6 ∨ (k : Int) = 9 ∨ (k : Int) = 11 then (30 : Int) else 31) = [31, 28, 31, 30, 31, 30, 31, 31, 30, 31, 30, 31].getD (k - 1) 0 := by decide
theorem lawLen_tab {y mo : Int} (h1 : 1 ≤ mo) (h2 : mo ≤ 12) (h : mo ≠ 2) : lawLen y mo = [31, 28, 31, 30, 31, 30, 31, 31, 30, 31, 30, 31].getD (mo - 1).toNat (0 : Int) := by
  obtain ⟨k, rfl⟩ := Int.eq_ofNat_of_zero_le (show 0 ≤ mo by omega)
  have e : ((k : Int) - 1).toNat = k - 1 := by omega
  unfold lawLen
  rw [if_neg h, e]
  exact tab12 k (by omega) (by omega) (fun c => h (by rw [c]; rfl))
theorem lawLen_two {y : Int} : lawLen y 2 = if y.fmod 4 = 0 ∧ y ≠ 2100 then 29 else 28 := by unfold lawLen; exact if_pos rfl
theorem lawLen_facts {y mo d : Int} (hm1 : 1 ≤ mo) (hm2 : mo ≤ 12) (hd : d ≤ lawLen y mo) :
    (mo = 2 → y.fmod 4 = 0 → y ≠ 2100 → d ≤ 29) ∧ (mo = 2 → (y.fmod 4 ≠ 0 ∨ y = 2100) → d ≤ 28) ∧ (mo ≠ 2 → d ≤ [31, 28, 31, 30, 31, 30, 31, 31, 30, 31, 30, 31].getD (mo - 1).toNat 0) ∧ (mo = 2 → [31, 28, 31, 30, 31, 30, 31, 31, 30, 31, 30, 31].getD (mo - 1).toNat (0 : Int) = 28) := by
  refine ⟨fun h1 h2 h3 => ?_, fun h1 h2 => ?_, fun h1 => lawLen_tab hm1 hm2 h1 ▸ hd, fun h1 => by subst h1; rfl⟩
  · subst h1; rwa [lawLen_two, if_pos ⟨h2, h3⟩] at hd
  · subst h1; rwa [lawLen_two, if_neg (fun c => h2.elim (fun n => n c.1) (fun e => c.2 e))] at hd
theorem lawLen_not {y mo d : Int} (hm1 : 1 ≤ mo) (hm2 : mo ≤ 12) (hd : ¬ d ≤ lawLen y mo) :
    (mo = 2 → y.fmod 4 = 0 → y ≠ 2100 → 29 < d) ∧ (mo = 2 → (y.fmod 4 ≠ 0 ∨ y = 2100) → 28 < d) ∧ (mo ≠ 2 → [31, 28, 31, 30, 31, 30, 31, 31, 30, 31, 30, 31].getD (mo - 1).toNat 0 < d) ∧ (mo = 2 → [31, 28, 31, 30, 31, 30, 31, 31, 30, 31, 30, 31].getD (mo - 1).toNat (0 : Int) = 28) := by
  replace hd := Int.not_le.mp hd
  refine ⟨fun h1 h2 h3 => ?_, fun h1 h2 => ?_, fun h1 => lawLen_tab hm1 hm2 h1 ▸ hd, fun h1 => by subst h1; rfl⟩
  · subst h1; rwa [lawLen_two, if_pos ⟨h2, h3⟩] at hd
  · subst h1; rwa [lawLen_two, if_neg (fun c => h2.elim (fun n => n c.1) (fun e => c.2 e))] at hd
theorem fm_facts {y : Int} : y.fmod 4 = y % 4 ∧ y.fmod 100 = y % 100 ∧ y.fmod 400 = y % 400 := ⟨Int.fmod_eq_emod_of_nonneg _ (by decide), Int.fmod_eq_emod_of_nonneg _ (by decide), Int.fmod_eq_emod_of_nonneg _ (by decide)⟩

variable {w : World} {mean : ExcName → Option Value} {mg mb : Str → Option Value} {dp un : Nat} {gd : Option (List Code)} {cn : Str} {cs : Scope} {a : Addr} {ccd : Value} {cl : List (Str × Addr)} {outer : List Env} {A₀ : Around} {base h₀ : Heap} {L : Addr} {m : Str → Option Value} {news : List (Addr × Obj)} {s : Shared} {Q E : Value → Shared → Prop}

local macro_rules | `(tactic| walk_at "enter") => `(tactic| (refine wpAny_call ?_; (first | k_dflt cell_enter | fail "not entered")))

theorem c_len {y mo : Int} {ty tm : Tok} (B : Below A₀ base outer h₀) (F : Fr h₀ L s.heap m) (X : (KK w.params).In h₀) (N : News h₀ L s.heap news) (T : Top VW LO mean mg mb h₀) (hk : cs.kind = .function) (hd : dp + 1 < recursionLimit) (hu : un + 8 < cLine)
    (ret : ∀ t h' tk', Fr h₀ L h' m → News h₀ L h' news → Q (.int (lawLen y mo) t) { s with heap := h', toks := tk' }) :
    wpAny (model PR w) (ktrTop dp un gd cn cs L a ccd cl outer) (call (.ref 691) [.int y ty, .int mo tm]) Q E s := by
  refine wpAny_call ?_
  k_dflt cell_enter
  k_steps
  all_goals (refine' cb_retI ret _ ?e2 ?e3; (case e2 => k_asm); (case e3 => first | k_asm | (refine' cb_drop ?cbN ?cbS; (case cbN => assumption); (case cbS => kcj_all))))
  all_goals (simp only [lawLen, decide_eq_true_eq, decide_eq_false_iff_not, Bool.not_eq_true', Bool.not_eq_false', List.any_cons, List.any_nil, Bool.or_false, Bool.or_eq_true, beq_iff_eq, Bool.or_eq_false_iff, beq_eq_false_iff_ne] at *)
  all_goals ((repeat' split) <;> first | rfl | omega | (simp_all; done))
end
theorem layj_1 : True := by
  k_with_none
  k_with "my:n" => (first | (first | k_asm | (refine' cb_drop (by assumption) (by kcj_all))) | fail)
  k_with "my:lt" => (first | (first | assumption | (intro p9 hp9; (refine ktn_ltOf ?_ p9 hp9); (simp only [AllLt, and_true] at *); first | assumption | (simp_all only [and_self]; done))) | fail)
  k_with "my:room" => (first | (first | exact room1 hd (by decide) | exact room2 hd (by decide) | exact room3 hd (by decide) | exact room0 hd | exact room1 hu (by decide) | exact room2 hu (by decide) | exact room3 hu (by decide) | exact room0 hu) | ((try simp only [depth_under_make, depth_under_kw, depth_in1, depth_deeper, depth_mark, depth_caller, units_under_make, units_under_kw, units_in1, units_deeper, Around.mark_units, units_caller]); (try dsimp only [ktrTop, ktrH]); first | (first | exact room1 hd (by decide) | exact room2 hd (by decide) | exact room3 hd (by decide) | exact room0 hd | exact room1 hu (by decide) | exact room2 hu (by decide) | exact room3 hu (by decide) | exact room0 hu) | omega | decide | (simp only [recursionLimit, cLine] at *; omega)) | fail)
  k_with "my:in" => (first | (refine wpAny_call ?_; k_dflt cell_enter) | fail)
  k_with "my:enter" => (first | (refine' code_defR (by exact rfl) (by exact rfl) (by first | exact rfl | assumption) (by k_asm) (by k_asm) (by k_asm) (by k_asm) (by k_asm) (by k_is) (by k_is) (by walk_at "my:room") (by first | exact BindsTo.of_eq rfl | exact binds_K (by k_in) rfl (by k_is) rfl rfl rfl | fail "my:enter: no rule for these arguments") (by exact locs rfl) ?_ (by exact rfl) (by exact rfl) (by exact rfl) (by decide); k_whole; intro g' L' h' FG' F' N' B' X' T'; (try dsimp only); (try k_lift B'); (try k_fold)) | fail)
  k_with "call ref" => (first | (k_here; k_dflt (first | (refine' call_cls (by k_asm) (by k_asm) (by k_asm) (by k_is) (by k_is) (by k_is) ?_; k_whole; intro x' d' h' F' N' l1 l2; (try k_lt l1); (try k_lt2 l2); (try k_sweep); walk_at "my:enter") | (refine' call_meth (by k_asm) (by k_mem) ?_; k_whole; walk_at "my:enter") | (refine wpAny_call ?_; walk_at "my:enter"))) | fail)
  k_with "ite" => (first | (k_here; first | with_reducible refine ite_tt ?_ | with_reducible refine ite_ff ?_ | (with_reducible refine split_ine ?_ ?_ <;> intro _) | (with_reducible refine split_ieq ?_ ?_ <;> intro _) | with_reducible refine split_not ?_ | (refine split_dec ?_ ?_ <;> intro _ <;> (try k_fold) <;> (try dsimp only)) | (refine split_bool ?_ ?_ <;> intro _ <;> (try k_fold) <;> (try dsimp only))) | fail)
  k_with "ite" => (first | (k_here; k_openite; first | (refine ite_pos (by with_reducible assumption) ?_; walk_say "MY PRUNED"; (try k_fold); (try dsimp only)) | (refine ite_neg (by with_reducible assumption) ?_; walk_say "MY PRUNED"; (try k_fold); (try dsimp only)) | (k_spoken; first | (refine ite_pos (by (first | omega | (simp only [decide_eq_true_eq]; omega))) ?_; walk_say "MY PRUNED"; (try k_fold); (try dsimp only)) | (refine ite_neg (by (first | omega | (simp only [decide_eq_true_eq]; omega))) ?_; walk_say "MY PRUNED"; (try k_fold); (try dsimp only)))) | fail)
  k_with "ite" => (first | (k_closed; (first | (refine ite_neg (by decide) ?_) | (refine ite_pos (by decide) ?_)); (try k_fold); (try dsimp only)) | fail)
  k_with "execs cons" => (first | (k_here; k_fold; (try dsimp only); (try k_gentoks)) | fail)
  k_with "execs nil" => (first | (k_here; k_fold; (try dsimp only); (try k_gentoks)) | fail)
  k_with "eval Name" => (first | (k_here; (with_reducible show wpAny _ _ (eval (Expr.Name _ _) (envOf _ _ _ _ _)) _ _ _); k_dflt (refine' ld (by with_reducible assumption) (by exact rfl) ?_; k_whole)) | fail)
  k_with "InitBack" => (first | (k_here; dsimp only [InitBack]) | fail)
  k_with "my:p" => (first | (first | assumption | (and_intros <;> omega)) | fail)
  trivial
local macro_rules | `(tactic| walk_at $s:str) => `(tactic| k_extra $s)
variable {hdl : Option Value} {w : World} {mean : ExcName → Option Value} {mg mb : Str → Option Value} {dp un : Nat} {gd : Option (List Code)} {cn : Str} {cs : Scope} {a : Addr} {ccd : Value} {cl : List (Str × Addr)} {outer : List Env} {A₀ : Around} {base h₀ : Heap} {L : Addr} {m : Str → Option Value} {news : List (Addr × Obj)} {s : Shared} {Q E : Value → Shared → Prop}
theorem layj_2 : True := by
  k_with "call ref" => (first | (k_here; (with_reducible show wpAny _ _ (call (Value.ref 691) _ _) _ _ _); k_dflt (refine' c_len (by k_asm) (by k_asm) (by k_asm) (by k_asm) (by k_asm) (by first | exact rfl | assumption) (by walk_at "my:room") (by walk_at "my:room") ?_; k_whole); intro t9 h9 tk9 F9 N9; (try dsimp only); (try k_fold)) | fail)
  trivial
noncomputable def lawDate (wd : Int) : Option (Int × Int × Int) :=
  if 1 ≤ (wd.fdiv 32).fmod 16 ∧ (wd.fdiv 32).fmod 16 ≤ 12 ∧ 1 ≤ wd.fmod 32 ∧ wd.fmod 32 ≤ lawLen ((wd.fdiv 32).fdiv 16 + 1980) ((wd.fdiv 32).fmod 16) then some ((wd.fdiv 32).fdiv 16 + 1980, (wd.fdiv 32).fmod 16, wd.fmod 32) else none
theorem c_date {wd : Int} {tw : Tok} (hw : 0 ≤ wd ∧ wd < 65536) (B : Below A₀ base outer h₀) (F : Fr h₀ L s.heap m) (X : (KK w.params).In h₀) (N : News h₀ L s.heap news) (T : Top VW LO mean mg mb h₀) (hk : cs.kind = .function) (hd : dp + 2 < recursionLimit) (hu : un + 16 < cLine)
    (retN : lawDate wd = none → ∀ h' tk', Fr h₀ L h' m → News h₀ L h' news → Q .none { s with heap := h', toks := tk' })
    (retS : ∀ y mo d, lawDate wd = some (y, mo, d) → ∀ l t1 t2 t3 h' tk', Fr h₀ L h' m → News h₀ L h' ((l, W.listOf #[.int y t1, .int mo t2, .int d t3] 0) :: news) → (∀ p ∈ news, p.1 < l) → Q (.ref l) { s with heap := h', toks := tk' }) :
    wpAny (model PR w) (ktrTop dp un gd cn cs L a ccd cl outer) (call (.ref 698) [.int wd tw]) Q E s := by
  walk_at "my:in"
  k_steps
  all_goals first
    | (refine' retN ?_ _ _ (by k_asm) (by walk_at "my:n"))
    | (refine' retS _ _ _ ?_ _ _ _ _ _ _ (by k_asm) (by walk_at "my:n") (by walk_at "my:lt"))
  all_goals (simp only [lawDate]; first | (rw [if_pos (by omega)]; done) | (rw [if_neg (by omega)]; done))
theorem layj_3 : True := by
  k_with "call ref" => (first | (k_here; (with_reducible show wpAny _ _ (call (Value.ref 698) _ _) _ _ _); k_dflt (refine' c_date (by walk_at "my:p") (by k_asm) (by k_asm) (by k_asm) (by k_asm) (by k_asm) (by first | exact rfl | assumption) (by walk_at "my:room") (by walk_at "my:room") ?_ ?_; all_goals k_whole); all_goals first | (intro y9 mo9 d9 hs9 l9 t19 t29 t39 h9 tk9 F9 N9 lt9; (try k_lt lt9); (try dsimp only); (try k_fold)) | (intro hn9 h9 tk9 F9 N9; (try dsimp only); (try k_fold))) | fail)
  trivial
noncomputable abbrev tmDict (P : Params) (u1 u2 u3 : Tok) (ho mi se : Int) (t1 t2 t3 : Tok) : Obj := dictOf [⟨PyData.keyHash P (Str.ofString "hour"), .str (Str.ofString "hour") u1, .int ho t1⟩, ⟨PyData.keyHash P (Str.ofString "minute"), .str (Str.ofString "minute") u2, .int mi t2⟩, ⟨PyData.keyHash P (Str.ofString "second"), .str (Str.ofString "second") u3, .int se t3⟩] 3
noncomputable abbrev tmIf : Stmt := lit (nthSt f2m0B 0) _ (by conv => lhs; whnf)
noncomputable abbrev tmRaise : List Stmt := lit (match tmIf with | .If _ b _ _ => b | _ => []) _ (by conv => lhs; whnf)
theorem st_tmIf {A : Around} {QF : Flow → Shared → Prop} {ho : Int} {mi : Int} {se : Int} {tho tmi tse : Tok} {g : Heap} {L' : Addr} {m' : Str → Option Value} (F : Fr g L' s.heap m') (hho : m' (Str.ofString "hour") = some (.int ho tho)) (hmi : m' (Str.ofString "minute") = some (.int mi tmi)) (hse : m' (Str.ofString "second") = some (.int se tse))
    (ok : 0 ≤ ho ∧ ho ≤ 23 ∧ 0 ≤ mi ∧ mi ≤ 59 ∧ 0 ≤ se ∧ se ≤ 59 → ∀ tk', QF .next { s with toks := tk' }) (bad : ¬ (0 ≤ ho ∧ ho ≤ 23 ∧ 0 ≤ mi ∧ mi ≤ 59 ∧ 0 ≤ se ∧ se ≤ 59) → ∀ tk', wpAny (model PR w) A (execs tmRaise (envOf (Str.ofString "DosTime.__init__") f2m0S L' 35 (.ref 34))) QF E { s with toks := tk' }) :
    wpAny (model PR w) A (exec tmIf (envOf (Str.ofString "DosTime.__init__") f2m0S L' 35 (.ref 34))) QF E s := by
  have e0 : fo [(Str.ofString "hour", .int ho tho), (Str.ofString "minute", .int mi tmi), (Str.ofString "second", .int se tse)] m' = m' := fo_cons hho (fo_cons hmi (fo_cons hse fo_nil))
  replace F : Fr g L' s.heap (fo [(Str.ofString "hour", .int ho tho), (Str.ofString "minute", .int mi tmi), (Str.ofString "second", .int se tse)] m') := e0.symm ▸ F
  clear e0
  dsimp only [tmIf, lit]
  (k_with "execs cons" => (first | exact bad (by omega) _ | fail))
  (k_with "execs nil" => (first | (refine ok (by first | (and_intros <;> omega) | fail) _) | fail))
  k_steps
  all_goals first | exact ok (by first | (and_intros <;> omega) | fail) _ | exact bad (by omega) _
theorem lay_tm : True := by
  k_with "exec If" => (first | (k_here; (with_reducible show wpAny _ _ (exec tmIf _) _ _ _); k_dflt (first | (refine' st_tmIf (by assumption) (by exact rfl) (by exact rfl) (by exact rfl) ?_ (fun c => absurd (by first | (and_intros <;> omega) | fail) c); k_whole; intro c9 tk9) | (refine' st_tmIf (by assumption) (by exact rfl) (by exact rfl) (by exact rfl) (fun c => by exfalso; omega) ?_; k_whole; intro c9 tk9) | (refine' st_tmIf (by assumption) (by exact rfl) (by exact rfl) (by exact rfl) ?_ ?_; all_goals k_whole; all_goals (intro c9 tk9))); all_goals (try dsimp only); all_goals (try k_fold)) | fail)
  trivial
theorem c_tm {ho mi se : Int} {t1 t2 t3 : Tok} (hv : 0 ≤ ho ∧ ho ≤ 23 ∧ 0 ≤ mi ∧ mi ≤ 59 ∧ 0 ≤ se ∧ se ≤ 59) (B : Below A₀ base outer h₀) (F : Fr h₀ L s.heap m) (X : (KK w.params).In h₀) (N : News h₀ L s.heap news) (T : Top VW LO mean mg mb h₀) (hk : cs.kind = .function) (hd : dp + 2 < recursionLimit) (hu : un + 16 < cLine)
    (ret : ∀ x dx u1 u2 u3 h' tk', Fr h₀ L h' m → News h₀ L h' ((x, instObj 38 dx) :: (dx, tmDict w.params u1 u2 u3 ho mi se t1 t2 t3) :: news) →
      (∀ p ∈ news, p.1 < dx) → dx < x → Q (.ref x) { s with heap := h', toks := tk' }) :
    wpAny (model PR w) (ktrH hdl dp un gd cn cs L a ccd cl outer) (call (.ref 38) [.int ho t1, .int mi t2, .int se t3]) Q E s := by
  k_steps
  all_goals (exact ret _ _ _ _ _ _ _ (by k_asm) (by walk_at "my:n") (by walk_at "my:lt") (by assumption))
theorem layj_4 : True := by
  k_with "call ref" => (first | (k_here; (with_reducible show wpAny _ _ (call (Value.ref 38) _ _) _ _ _); k_dflt (refine' c_tm (by walk_at "my:p") (by k_asm) (by k_asm) (by k_asm) (by k_asm) (by k_asm) (by first | exact rfl | assumption) (by walk_at "my:room") (by walk_at "my:room") ?_; k_whole); intro x9 d9 t19 t29 t39 h9 tk9 F9 N9 lt9 l29; (try k_lt lt9); (try k_lt2 l29); (try dsimp only); (try k_fold)) | fail)
  k_with "exec If" => (first | (k_here; (with_reducible show wpAny _ _ (exec tmIf _) _ _ _); k_dflt (first | (refine' st_tmIf (by assumption) (by exact rfl) (by exact rfl) (by exact rfl) ?_ (fun c => absurd (by first | (and_intros <;> omega) | fail) c); k_whole; intro c9 tk9) | (refine' st_tmIf (by assumption) (by exact rfl) (by exact rfl) (by exact rfl) (fun c => by exfalso; omega) ?_; k_whole; intro c9 tk9) | (refine' st_tmIf (by assumption) (by exact rfl) (by exact rfl) (by exact rfl) ?_ ?_; all_goals k_whole; all_goals (intro c9 tk9))); all_goals (try dsimp only); all_goals (try k_fold)) | fail)
  trivial
noncomputable def lawClock (wd : Int) : Option (Int × Int × Int) :=
  if (wd.fdiv 32).fdiv 64 < 24 ∧ (wd.fdiv 32).fmod 64 < 60 ∧ wd.fmod 32 < 30 then some ((wd.fdiv 32).fdiv 64, (wd.fdiv 32).fmod 64, wd.fmod 32 + wd.fmod 32) else none
theorem c_clock {wd : Int} {tw : Tok} (hw : 0 ≤ wd ∧ wd < 65536) (B : Below A₀ base outer h₀) (F : Fr h₀ L s.heap m) (X : (KK w.params).In h₀) (N : News h₀ L s.heap news) (T : Top VW LO mean mg mb h₀) (hk : cs.kind = .function) (hd : dp + 1 < recursionLimit) (hu : un + 8 < cLine)
    (retN : lawClock wd = none → ∀ h' tk', Fr h₀ L h' m → News h₀ L h' news → Q .none { s with heap := h', toks := tk' })
    (retS : ∀ y mo d, lawClock wd = some (y, mo, d) → ∀ l t1 t2 t3 h' tk', Fr h₀ L h' m → News h₀ L h' ((l, W.listOf #[.int y t1, .int mo t2, .int d t3] 0) :: news) → (∀ p ∈ news, p.1 < l) → Q (.ref l) { s with heap := h', toks := tk' }) :
    wpAny (model PR w) (ktrTop dp un gd cn cs L a ccd cl outer) (call (.ref 705) [.int wd tw]) Q E s := by
  walk_at "my:in"
  k_steps
  all_goals first
    | (refine' retN ?_ _ _ (by k_asm) (by walk_at "my:n"))
    | (refine' retS _ _ _ ?_ _ _ _ _ _ _ (by k_asm) (by walk_at "my:n") (by walk_at "my:lt"))
  all_goals (simp only [lawClock]; first | (rw [if_pos (by omega)]; done) | (rw [if_neg (by omega)]; done))
theorem c_pair {wd : Int} {tw : Tok} (hw : 0 ≤ wd ∧ wd < 65536) (B : Below A₀ base outer h₀) (F : Fr h₀ L s.heap m) (X : (KK w.params).In h₀) (N : News h₀ L s.heap news) (T : Top VW LO mean mg mb h₀) (hk : cs.kind = .function) (hd : dp + 1 < recursionLimit) (hu : un + 8 < cLine)
    (ret : ∀ l t1 t2 h' tk', Fr h₀ L h' m → News h₀ L h' ((l, W.listOf #[.int (wd.fmod 256) t1, .int (wd.fdiv 256) t2] 0) :: news) → (∀ p ∈ news, p.1 < l) → Q (.ref l) { s with heap := h', toks := tk' }) :
    wpAny (model PR w) (ktrTop dp un gd cn cs L a ccd cl outer) (call (.ref 733) [.int wd tw]) Q E s := by
  walk_at "my:in"
  k_steps
  all_goals (refine' ret _ _ _ _ _ (by k_asm) (by walk_at "my:n") (by walk_at "my:lt"))
theorem layj_5 : True := by
  k_with "call ref" => (first | (k_here; (with_reducible show wpAny _ _ (call (Value.ref 705) _ _) _ _ _); k_dflt (refine' c_clock (by walk_at "my:p") (by k_asm) (by k_asm) (by k_asm) (by k_asm) (by k_asm) (by first | exact rfl | assumption) (by walk_at "my:room") (by walk_at "my:room") ?_ ?_; all_goals k_whole); all_goals first | (intro y9 mo9 d9 hs9 l9 t19 t29 t39 h9 tk9 F9 N9 lt9; (try k_lt lt9); (try dsimp only); (try k_fold)) | (intro hn9 h9 tk9 F9 N9; (try dsimp only); (try k_fold))) | fail)
  k_with "call ref" => (first | (k_here; (with_reducible show wpAny _ _ (call (Value.ref 733) _ _) _ _ _); k_dflt (refine' c_pair (by walk_at "my:p") (by k_asm) (by k_asm) (by k_asm) (by k_asm) (by k_asm) (by first | exact rfl | assumption) (by walk_at "my:room") (by walk_at "my:room") ?_; k_whole); intro l9 t19 t29 h9 tk9 F9 N9 lt9; (try k_lt lt9); (try dsimp only); (try k_fold)) | fail)
  trivial
noncomputable abbrev dtIf : Stmt := lit (nthSt f3m0B 0) _ (by conv => lhs; whnf)
noncomputable abbrev dtRaise : List Stmt := lit (match dtIf with | .If _ b _ _ => b | _ => []) _ (by conv => lhs; whnf)
theorem st_dtIf {A : Around} {QF : Flow → Shared → Prop} {y : Int} {mo : Int} {d : Int} {ty tmo td : Tok} {g : Heap} {L' : Addr} {m' : Str → Option Value} (F : Fr g L' s.heap m') (hy : m' (Str.ofString "year") = some (.int y ty)) (hmo : m' (Str.ofString "month") = some (.int mo tmo)) (hd : m' (Str.ofString "day") = some (.int d td))
    (ok : 1 ≤ y ∧ y ≤ 9999 ∧ 1 ≤ mo ∧ mo ≤ 12 ∧ 1 ≤ d → ∀ tk', QF .next { s with toks := tk' }) (bad : ¬ (1 ≤ y ∧ y ≤ 9999 ∧ 1 ≤ mo ∧ mo ≤ 12 ∧ 1 ≤ d) → ∀ tk', wpAny (model PR w) A (execs dtRaise (envOf (Str.ofString "DosDateTime.__init__") f3m0S L' 57 (.ref 56))) QF E { s with toks := tk' }) :
    wpAny (model PR w) A (exec dtIf (envOf (Str.ofString "DosDateTime.__init__") f3m0S L' 57 (.ref 56))) QF E s := by
  have e0 : fo [(Str.ofString "year", .int y ty), (Str.ofString "month", .int mo tmo), (Str.ofString "day", .int d td)] m' = m' := fo_cons hy (fo_cons hmo (fo_cons hd fo_nil))
  replace F : Fr g L' s.heap (fo [(Str.ofString "year", .int y ty), (Str.ofString "month", .int mo tmo), (Str.ofString "day", .int d td)] m') := e0.symm ▸ F
  clear e0
  dsimp only [dtIf, lit]
  (k_with "execs cons" => (first | exact bad (by omega) _ | fail))
  (k_with "execs nil" => (first | (refine ok (by first | (and_intros <;> omega) | fail) _) | fail))
  k_steps
  all_goals first | exact ok (by first | (and_intros <;> omega) | fail) _ | exact bad (by omega) _
@[irreducible] noncomputable def leapD (mo y D : Int) : Int := if mo = 2 ∧ y.fmod 4 = 0 ∧ y ≠ 2100 then 29 else D
theorem leap_len {y mo : Int} (h1 : 1 ≤ mo) (h2 : mo ≤ 12) : leapD mo y ([31, 28, 31, 30, 31, 30, 31, 31, 30, 31, 30, 31].getD (mo - 1).toNat (0 : Int)) = lawLen y mo := by
  unfold leapD
  by_cases h : mo = 2
  · subst h
    rw [lawLen_two]
    by_cases c : y.fmod 4 = 0 ∧ y ≠ 2100
    · rw [if_pos ⟨rfl, c⟩, if_pos c]
    · rw [if_neg (fun q => c q.2), if_neg c]; rfl
  · rw [if_neg (fun q => h q.1), lawLen_tab h1 h2 h]
noncomputable abbrev leapIf : Stmt := lit (nthSt f3m0B 2) _ (by conv => lhs; whnf)
theorem st_leap {A : Around} {QF : Flow → Shared → Prop} {y mo D : Int} {ty tm tD : Tok} {g : Heap} {L' : Addr} {m' : Str → Option Value} (F : Fr g L' s.heap m') (X : (KK w.params).In g) (N : News g L' s.heap news)
    (hy : m' (Str.ofString "year") = some (.int y ty)) (hm : m' (Str.ofString "month") = some (.int mo tm)) (hD : m' (Str.ofString "days") = some (.int D tD)) (hyr : 1980 ≤ y ∧ y ≤ 2107)
    (ret : ∀ t h' tk', Fr g L' h' (fun z => if z = Str.ofString "days" then some (.int (leapD mo y D) t) else m' z) → News g L' h' news → QF .next { s with heap := h', toks := tk' }) :
    wpAny (model PR w) A (exec leapIf (envOf (Str.ofString "DosDateTime.__init__") f3m0S L' 57 (.ref 56))) QF E s := by
  have same : m' = fun z => if z = Str.ofString "days" then some (.int D tD) else m' z := by
    funext z
    by_cases h : z = Str.ofString "days"
    · subst h; rw [if_pos rfl]; exact hD
    · rw [if_neg h]
  obtain ⟨f1, f2, f3⟩ := @fm_facts y
  have e0 : fo [(Str.ofString "year", .int y ty), (Str.ofString "month", .int mo tm), (Str.ofString "days", .int D tD)] m' = m' := fo_cons (by assumption) (fo_cons (by assumption) (fo_cons (by assumption) fo_nil))
  have F0 : Fr g L' s.heap (fo [(Str.ofString "year", .int y ty), (Str.ofString "month", .int mo tm), (Str.ofString "days", .int D tD)] m') := by rw [e0]; exact F
  have F2 : Unit → Fr g L' s.heap (fun z => if z = Str.ofString "days" then some (.int D tD) else m' z) := fun _ => Eq.mp (congrArg (Fr g L' s.heap) same) F
  clear F
  unfold leapD at ret
  dsimp only [leapIf, lit]
  k_steps
  all_goals (try dsimp only)
  all_goals (by_cases hc : mo = 2 ∧ y.fmod 4 = 0 ∧ y ≠ 2100)
  all_goals first | rw [if_pos hc] at ret | rw [if_neg hc] at ret
  all_goals first
    | (exfalso; omega)
    | exact ret _ _ _ (F2 ()) N
    | (simp only [e0] at *; exact ret _ _ _ (by assumption) (by assumption))
theorem layj_6 : True := by
  k_with "exec If" => (first | (k_here; (with_reducible show wpAny _ _ (exec leapIf _) _ _ _); k_dflt (refine' st_leap (by assumption) (by assumption) (by assumption) (by exact rfl) (by exact rfl) (by exact rfl) (by omega) ?_; k_whole); intro t9 h9 tk9 F9 N9; (try dsimp only); (try k_fold)) | fail)
  k_with "exec If" => (first | (k_here; (with_reducible show wpAny _ _ (exec dtIf _) _ _ _); k_dflt (first | (refine' st_dtIf (by assumption) (by exact rfl) (by exact rfl) (by exact rfl) ?_ (fun c => absurd (by first | (and_intros <;> omega) | fail) c); k_whole; intro c9 tk9) | (refine' st_dtIf (by assumption) (by exact rfl) (by exact rfl) (by exact rfl) (fun c => by exfalso; omega) ?_; k_whole; intro c9 tk9) | (refine' st_dtIf (by assumption) (by exact rfl) (by exact rfl) (by exact rfl) ?_ ?_; all_goals k_whole; all_goals (intro c9 tk9))); all_goals (try dsimp only); all_goals (try k_fold)) | fail)
  trivial
noncomputable abbrev dtDict (P : Params) (u1 u2 u3 u4 u5 u6 : Tok) (y mo d h mi se : Int) (t1 t2 t3 t4 t5 t6 : Tok) : Obj :=
  dictOf [⟨PyData.keyHash P (Str.ofString "year"), .str (Str.ofString "year") u1, .int y t1⟩, ⟨PyData.keyHash P (Str.ofString "month"), .str (Str.ofString "month") u2, .int mo t2⟩, ⟨PyData.keyHash P (Str.ofString "day"), .str (Str.ofString "day") u3, .int d t3⟩,
    ⟨PyData.keyHash P (Str.ofString "hour"), .str (Str.ofString "hour") u4, .int h t4⟩, ⟨PyData.keyHash P (Str.ofString "minute"), .str (Str.ofString "minute") u5, .int mi t5⟩, ⟨PyData.keyHash P (Str.ofString "second"), .str (Str.ofString "second") u6, .int se t6⟩] 6
theorem init_dt {QF : Flow → Shared → Prop} {x dx : Addr} {y mo d ho mi se : Int} {t1 t2 t3 t4 t5 t6 : Tok} (B : Below A₀ base outer h₀) (F : Fr h₀ L s.heap m) (X : (KK w.params).In h₀) (N : News h₀ L s.heap ((x, instObj 104 dx) :: (dx, dictOf [] 0) :: news)) (T : Top VW LO mean mg mb h₀) (hd : dp + 2 < recursionLimit) (hu : un + 16 < cLine)
    (lx : m (Str.ofString "self") = some (.ref x)) (ly : m (Str.ofString "year") = some (.int y t1)) (lmo : m (Str.ofString "month") = some (.int mo t2)) (ld : m (Str.ofString "day") = some (.int d t3)) (lho : m (Str.ofString "hour") = some (.int ho t4)) (lmi : m (Str.ofString "minute") = some (.int mi t5)) (lse : m (Str.ofString "second") = some (.int se t6)) (hv : (1980 ≤ y ∧ y ≤ 2107 ∧ 1 ≤ mo ∧ mo ≤ 12 ∧ 1 ≤ d ∧ d ≤ lawLen y mo) ∧ 0 ≤ ho ∧ ho ≤ 23 ∧ 0 ≤ mi ∧ mi ≤ 59 ∧ 0 ≤ se ∧ se ≤ 59) (lt : (∀ p ∈ news, p.1 < dx) ∧ dx < x)
    (ret : ∀ u1 u2 u3 u4 u5 u6 m' h' tk', Fr h₀ L h' m' → News h₀ L h' ((x, instObj 104 dx) :: (dx, dtDict w.params u1 u2 u3 u4 u5 u6 y mo d ho mi se t1 t2 t3 t4 t5 t6) :: news) → QF .next { s with heap := h', toks := tk' }) :
    wpAny (model PR w) (ktrH hdl dp un gd (Str.ofString "DosDateTime.__init__") f3m0S L 57 (.ref 56) [] outer) (execs f3m0B (envOf (Str.ofString "DosDateTime.__init__") f3m0S L 57 (.ref 56))) QF E s := by
  have e0 : fo [(Str.ofString "self", .ref x), (Str.ofString "year", .int y t1), (Str.ofString "month", .int mo t2), (Str.ofString "day", .int d t3), (Str.ofString "hour", .int ho t4), (Str.ofString "minute", .int mi t5), (Str.ofString "second", .int se t6)] m = m := fo_cons lx (fo_cons ly (fo_cons lmo (fo_cons ld (fo_cons lho (fo_cons lmi (fo_cons lse fo_nil))))))
  replace F : Fr h₀ L s.heap (fo [(Str.ofString "self", .ref x), (Str.ofString "year", .int y t1), (Str.ofString "month", .int mo t2), (Str.ofString "day", .int d t3), (Str.ofString "hour", .int ho t4), (Str.ofString "minute", .int mi t5), (Str.ofString "second", .int se t6)] m) := e0.symm ▸ F
  clear e0
  have hk : f3m0S.kind = .function := rfl
  obtain ⟨⟨v1, v2, v3, v4, v5, v6⟩, v7⟩ := hv
  obtain ⟨lt9, l29⟩ := lt
  (try k_lt lt9); (try k_lt2 l29)
  have z1 : d ≤ leapD mo y ([31, 28, 31, 30, 31, 30, 31, 31, 30, 31, 30, 31].getD (mo - 1).toNat (0 : Int)) := (leap_len v3 v4).symm ▸ v6
  clear v6
  k_steps
  all_goals (exact ret _ _ _ _ _ _ _ _ _ (by k_asm) (by walk_at "my:n"))
theorem lay_init : True := by
  k_with "execs cons" => (first | (k_here; (with_reducible show wpAny _ _ (execs f3m0B _) _ _ _); k_dflt (refine' init_dt (by k_asm) (by k_asm) (by k_asm) (by k_asm) (by k_asm) (by walk_at "my:room") (by walk_at "my:room") (by exact rfl) (by exact rfl) (by exact rfl) (by exact rfl) (by exact rfl) (by exact rfl) (by exact rfl) (by first | assumption | (and_intros <;> first | assumption | omega | decide) | fail) (by walk_at "my:ltx") ?_; k_whole); intro u19 u29 u39 u49 u59 u69 m9 h9 tk9 F9 N9; (try dsimp only); (try k_fold)) | fail)
  k_with "my:ltx" => (first | (refine ⟨?_, ?_⟩ <;> first | assumption | omega | walk_at "my:lt") | fail)
  trivial
theorem c_dt6 {y mo d ho mi se : Int} {t1 t2 t3 t4 t5 t6 : Tok} (hv : (1980 ≤ y ∧ y ≤ 2107 ∧ 1 ≤ mo ∧ mo ≤ 12 ∧ 1 ≤ d ∧ d ≤ lawLen y mo) ∧ 0 ≤ ho ∧ ho ≤ 23 ∧ 0 ≤ mi ∧ mi ≤ 59 ∧ 0 ≤ se ∧ se ≤ 59) (B : Below A₀ base outer h₀) (F : Fr h₀ L s.heap m) (X : (KK w.params).In h₀) (N : News h₀ L s.heap news) (T : Top VW LO mean mg mb h₀) (hk : cs.kind = .function) (hd : dp + 4 < recursionLimit) (hu : un + 32 < cLine)
    (ret : ∀ x dx u1 u2 u3 u4 u5 u6 h' tk', Fr h₀ L h' m → News h₀ L h' ((x, instObj 104 dx) :: (dx, dtDict w.params u1 u2 u3 u4 u5 u6 y mo d ho mi se t1 t2 t3 t4 t5 t6) :: news) →
      (∀ p ∈ news, p.1 < dx) → dx < x → Q (.ref x) { s with heap := h', toks := tk' }) :
    wpAny (model PR w) (ktrH hdl dp un gd cn cs L a ccd cl outer) (call (.ref 104) [.int y t1, .int mo t2, .int d t3, .int ho t4, .int mi t5, .int se t6]) Q E s := by
  k_steps
  all_goals (exact ret _ _ _ _ _ _ _ _ _ _ (by k_asm) (by walk_at "my:n") (by walk_at "my:lt") (by assumption))
theorem layj_7 : True := by
  k_with "call ref" => (first | (k_here; (with_reducible show wpAny _ _ (call (Value.ref 104) _ _) _ _ _); k_dflt (refine' c_dt6 (by walk_at "my:p") (by k_asm) (by k_asm) (by k_asm) (by k_asm) (by k_asm) (by first | exact rfl | assumption) (by walk_at "my:room") (by walk_at "my:room") ?_; k_whole); intro x9 d9 u19 u29 u39 u49 u59 u69 h9 tk9 F9 N9 lt9 l29; (try k_lt lt9); (try k_lt2 l29); (try dsimp only); (try k_fold)) | fail)
  k_with "execs cons" => (first | (k_here; (with_reducible show wpAny _ _ (execs f3m0B _) _ _ _); k_dflt (refine' init_dt (by k_asm) (by k_asm) (by k_asm) (by k_asm) (by k_asm) (by walk_at "my:room") (by walk_at "my:room") (by exact rfl) (by exact rfl) (by exact rfl) (by exact rfl) (by exact rfl) (by exact rfl) (by exact rfl) (by first | assumption | (and_intros <;> first | assumption | omega | decide) | fail) (by walk_at "my:ltx") ?_; k_whole); intro u19 u29 u39 u49 u59 u69 m9 h9 tk9 F9 N9; (try dsimp only); (try k_fold)) | fail)
  k_with "my:ltx" => (first | (refine ⟨?_, ?_⟩ <;> first | assumption | omega | walk_at "my:lt") | fail)
  trivial
/-! a def that may catch, called out of any frame (cells or not): its frames below may turn in their slots -/
theorem memFr {env : Env} {outer : List Env} {L b : Addr} (hf : env.frame = some L) (hm : b ∈ (env :: outer).filterMap (·.frame)) : b = L ∨ b ∈ outer.filterMap (·.frame) := by
  rw [List.filterMap_cons, hf] at hm
  exact List.mem_cons.mp hm
section
variable {prog : Program} {A : Around} {g₀ : Heap} {env : Env} {K : Frag} {p : Program} {loose : List Str}
    {R : Result → Shared → Prop} {name qual : Str} {params : Arguments} {body : List Stmt} {scope : Scope} {dV kV doc pm cdv ct oc : Value} {an od : Option Addr} {osl : Array (Option Value)} {f : Addr} {args : Args} {binds : List (Str × Value)}
theorem call_turning (hA : A.frames = some (env :: outer)) (hf : env.frame = some L) (hke : env.scope.kind = .function) (F : Fr h₀ L s.heap m) (B : Below A₀ base outer h₀) (X₀ : K.In h₀) (N : News h₀ L s.heap news) (T : Top p loose mean mg mb h₀) (XB : K.In base) (TB : Top p loose mean mg mb base) (D : KtsDicts (outer.filterMap (·.frame)) h₀)
    (T0 : KtsTurn (outer.filterMap (·.frame)) g₀ h₀)
    (ho : K.lookup f = some ⟨oc, od, .func (fnOf name qual params body scope dV kV doc pm an cdv ct), osl⟩) (hcd : codeIn K cdv qual = true) (hroom : A.depth < recursionLimit)
    (hbind : BindsTo s (fnOf name qual params body scope dV kV doc pm an cdv ct) args binds) (hloc : ∀ y ∈ binds, scope.names.lookup y.1 = some .local)
    (h : ∀ g L' h₁, Fr h₀ L g m → Fr g L' h₁ (fun y => binds.reverse.lookup y) → News g L' h₁ news → Below A base (env :: outer) g → K.In g → Top p loose mean mg mb g → KtsDicts ((env :: outer).filterMap (·.frame)) g →
      wpAny (model prog w) (A.deeper (envOf qual scope L' f cdv)) (execs body (envOf qual scope L' f cdv))
        (fun fl s' => LeaveS ((env :: outer).filterMap (·.frame)) A₀ base outer K p loose mean mg mb g₀ h₀ L m g R (match fl with | .ret v => v | _ => .none) s')
        (fun e s' => wpAny (model prog w) (A.deeper (envOf qual scope L' f cdv)) (leaving (envOf qual scope L' f cdv) e) (fun _ s'' => R (.error e) s'') (fun e' s'' => R (.error e') s'') s')
        { s with heap := h₁, toks := s.toks + binds.length })
    (hco : scope.isCoroutine = false) (hgen : scope.isGenerator = false) (hk : scope.kind = .function)
    (hcell : ∀ x ∈ scope.names, x.2 ≠ .cell) : codeAny (model prog w) A (.call (.ref f) args) R s := by
  have X := X₀.keeps F.keep
  obtain ⟨FG, BG, st, _⟩ := groundX (R := R) B F N hA hf hke
  obtain ⟨oL, es, ep, hLg, hLd, hLk, hLf⟩ := FG.ns
  have nL₀ : h₀.get? L = none := kts_self F
  have nmem : ∀ b o, h₀.get? b = some o → b ≠ L := fun b o e q => by rw [q, nL₀] at e; cases e
  refine codeAny_call_def (fd := fnOf name qual params body scope dV kV doc pm an cdv ct) (body := body) (binds := binds) hroom (X _ _ ho) rfl (T.nolimit.keeps F.keep) (codeRec_of X hcd) rfl hbind hcell hloc (fun h₁ hns hk₁ => ?_) hco hgen hk
  have DG : KtsDicts ((env :: outer).filterMap (·.frame)) (hideAll s.heap (news.map (·.1))) := fun b hb => by
    rcases memFr hf hb with rfl | hb
    · exact ⟨oL, es, ep, hLg, hLd⟩
    · obtain ⟨o, es', n', ho', hd'⟩ := D b hb
      exact ⟨o, es', n', st b o ho', hd'⟩
  refine wpAny_mono (h _ s.heap.objs.size h₁ FG ⟨hns, fun b o e => hk₁ b o (of_hideAll _ e), Nat.le_of_eq (hideAll_size _ _)⟩
    (fun p hp => ⟨hk₁ _ _ (N p hp).1, Nat.ne_of_lt (Heap.lt_size (N p hp).1), hideAll_none _ (List.mem_map_of_mem hp)⟩) BG (X₀.keeps st) (T.keeps st) DG) (fun fl s' hl => ?_) fun _ _ y => y
  rcases hl with ⟨L', m', news', F', N', k⟩ | ⟨g', L', m', news', T', F', N', k⟩
  · refine k ⟨⟨oL, es, ep, F'.keep _ _ hLg, hLd, hLk, hLf⟩, fun b o e => F'.keep b o (st b o e), F.above⟩ fun p hp => ⟨(N' p hp).1, fun q => ?_, ?_⟩
    · have := (N' p hp).2.2; rw [q, hLg] at this; cases this
    · cases q : h₀.get? p.1 with
      | none => rfl
      | some o => have := (N' p hp).2.2; rw [st _ _ q] at this; cases this
  · obtain ⟨sl, hs⟩ := T'.up hLg
    obtain ⟨T₁, S₁⟩ := kts_turn_at (h := s'.heap) (fs := outer.filterMap (·.frame)) (g := h₀)
      (fun b hb => by
        obtain ⟨_, o, ho', _⟩ := B.frames.mem hb
        exact ⟨o, ho'⟩)
      (fun b o e nm => F'.keep b o (T'.other b o (st b o e) (fun q => by
        rcases memFr hf q with z | z
        · exact nmem b o e z
        · exact nm z)))
      (fun b o e _ => by
        obtain ⟨sl', hs'⟩ := T'.up (st b o e)
        exact ⟨sl', F'.keep _ _ hs'⟩)
    have B₃ : Below A₀ base outer (ktsHeap s'.heap (outer.filterMap (·.frame)) h₀) := ⟨B.stack, fun b o e => T₁.other b o (B.stays b o e) (fun hm => by
      rw [(B.frames.mem hm).1] at e
      cases e), B.frames.of_keeps fun b o e _ => by
      obtain ⟨sl', hs'⟩ := T₁.up e
      exact ⟨_, hs', rfl⟩⟩
    refine k _ (T0.trans T₁) ⟨⟨_, es, ep, F'.keep _ _ hs, hLd, hLk, hLf⟩, S₁, by rw [T₁.size]; exact F.above⟩ (fun p hp => ⟨(N' p hp).1, fun q => ?_, ?_⟩) B₃ (XB.keeps B₃.stays) (TB.keeps B₃.stays) (D.turn T₁)
    · have := (N' p hp).2.2; rw [q, hs] at this; cases this
    · refine T₁.none_ _ ?_
      cases q : h₀.get? p.1 with
      | none => rfl
      | some o =>
        obtain ⟨sl', hs'⟩ := T'.up (st _ _ q)
        have := (N' p hp).2.2
        rw [hs'] at this
        cases this
end
theorem layj_8 : True := by
  k_with "my:enterS" => (first | (refine' call_turning (by exact rfl) (by exact rfl) (by first | exact rfl | assumption) (by k_asm) (by k_asm) (by k_asm) (by k_asm) (by k_asm) (by assumption) (by assumption) (by assumption) (by first | assumption | exact KtsTurn.refl) (by k_is) (by k_is) (by walk_at "my:room") (by first | exact BindsTo.of_eq rfl | exact binds_K (by k_in) rfl (by k_is) rfl rfl rfl) (by exact locs rfl) ?_ (by exact rfl) (by exact rfl) (by exact rfl) (by decide); k_whole; intro g' L' h' FG' F' N' B' X' T' D'; (try dsimp only); (try k_lift B'); (try k_fold)) | fail)
  k_with "my:inS" => (first | (refine wpAny_call ?_; k_dflt (walk_at "my:enterS")) | fail)
  trivial
theorem bits_time {wd : Int} (h : 0 ≤ wd ∧ wd < 65536) : Builtin.bitAnd (wd.fdiv (2 ^ Int.toNat 11)) (1 * 2 ^ Int.toNat 5 - 1) = (wd.fdiv 32).fdiv 64 ∧ Builtin.bitAnd (wd.fdiv (2 ^ Int.toNat 5)) (1 * 2 ^ Int.toNat 6 - 1) = (wd.fdiv 32).fmod 64 ∧ Builtin.bitAnd wd (1 * 2 ^ Int.toNat 5 - 1) = wd.fmod 32 ∧
    wd.fdiv 32 = wd / 32 ∧ (wd.fdiv 32).fdiv 64 = wd / 32 / 64 ∧ (wd.fdiv 32).fmod 64 = wd / 32 % 64 ∧ wd.fmod 32 = wd % 32 := by
  have e1 : wd.fdiv 32 = wd / 32 := Int.fdiv_eq_ediv_of_nonneg _ (by decide)
  have e2 : ∀ x : Int, x.fdiv 64 = x / 64 := fun x => Int.fdiv_eq_ediv_of_nonneg _ (by decide)
  have e3 : ∀ x : Int, x.fmod 64 = x % 64 := fun x => Int.fmod_eq_emod_of_nonneg _ (by decide)
  have e4 : wd.fmod 32 = wd % 32 := Int.fmod_eq_emod_of_nonneg _ (by decide)
  have e5 : wd.fdiv (2 ^ Int.toNat 11) = wd / 2048 := Int.fdiv_eq_ediv_of_nonneg _ (by decide)
  have e6 : wd.fdiv (2 ^ Int.toNat 5) = wd / 32 := Int.fdiv_eq_ediv_of_nonneg _ (by decide)
  have e7 : (1 * 2 ^ Int.toNat 5 - 1 : Int) = 31 := rfl
  have e8 : (1 * 2 ^ Int.toNat 6 - 1 : Int) = 63 := rfl
  rw [e5, e6, e7, e8, bitAnd_m5, bitAnd_m6, bitAnd_m5, e1, e2, e3, e4]
  and_intros <;> omega
theorem c_dtime {g₀ : Heap} {wd : Int} {tw : Tok} (hw : 0 ≤ wd ∧ wd < 65536) (B : Below A₀ base outer h₀) (F : Fr h₀ L s.heap m) (X : (KK w.params).In h₀) (N : News h₀ L s.heap news) (T : Top VW LO mean mg mb h₀) (hk : cs.kind = .function) (hd : dp + 8 < recursionLimit) (hu : un + 64 < cLine)
    (XB : (KK w.params).In base) (TB : Top VW LO mean mg mb base) (D : KtsDicts (outer.filterMap (·.frame)) h₀) (T0 : KtsTurn (outer.filterMap (·.frame)) g₀ h₀)
    (ret : ∀ ho mi se, (lawClock wd).getD (0, 0, 0) = (ho, mi, se) → ∀ h₀' x dx u1 u2 u3 t1 t2 t3 h' tk', Fr h₀' L h' m → News h₀' L h' ((x, instObj 38 dx) :: (dx, tmDict w.params u1 u2 u3 ho mi se t1 t2 t3) :: news) →
      (∀ p ∈ news, p.1 < dx) → dx < x → Below A₀ base outer h₀' → (KK w.params).In h₀' → Top VW LO mean mg mb h₀' → KtsDicts (outer.filterMap (·.frame)) h₀' → KtsTurn (outer.filterMap (·.frame)) g₀ h₀' → Q (.ref x) { s with heap := h', toks := tk' }) :
    wpAny (model PR w) (ktrTop dp un gd cn cs L a ccd cl outer) (call (.ref 98) [.int wd tw]) Q E s := by
  obtain ⟨b1, b2, b3, b4, b5, b6, b7⟩ := bits_time hw
  walk_at "my:inS"
  k_steps
  all_goals first
    | (refine' ret _ _ _ ?_ _ _ _ _ _ _ _ _ _ _ _ (by k_asm) (by walk_at "my:n") (by walk_at "my:lt") (by assumption) (by assumption) (by assumption) (by assumption) (by assumption) (by assumption))
  all_goals (simp only [lawClock]; first | (rw [if_pos (by first | (and_intros <;> omega) | fail)]; simp only [Option.getD_some, Prod.mk.injEq]; and_intros <;> omega) | (rw [if_neg (by omega)]; rfl))
theorem layj_9 : True := by
  k_with "call ref" => (first | (k_here; (with_reducible show wpAny _ _ (call (Value.ref 98) _ _) _ _ _); k_dflt (refine' c_dtime (by walk_at "my:p") (by k_asm) (by k_asm) (by k_asm) (by k_asm) (by k_asm) (by first | exact rfl | assumption) (by walk_at "my:room") (by walk_at "my:room") (by assumption) (by assumption) (by assumption) (by first | assumption | exact KtsTurn.refl) ?_; k_whole); intro y9 mo9 d9 hs9 g9 x9 dx9 u19 u29 u39 t19 t29 t39 h9 tk9 F9 N9 lt9 l29 B9 X9 T9 D9 K9; (try k_lt lt9); (try k_lt2 l29); (try dsimp only); (try k_fold)) | fail)
  trivial
theorem c_dt3 {y mo d : Int} {t1 t2 t3 : Tok} (hv : 1980 ≤ y ∧ y ≤ 2107 ∧ 1 ≤ mo ∧ mo ≤ 12 ∧ 1 ≤ d ∧ d ≤ lawLen y mo) (B : Below A₀ base outer h₀) (F : Fr h₀ L s.heap m) (X : (KK w.params).In h₀) (N : News h₀ L s.heap news) (T : Top VW LO mean mg mb h₀) (hk : cs.kind = .function) (hd : dp + 4 < recursionLimit) (hu : un + 32 < cLine)
    (ret : ∀ x dx u1 u2 u3 u4 u5 u6 t4 t5 t6 h' tk', Fr h₀ L h' m → News h₀ L h' ((x, instObj 104 dx) :: (dx, dtDict w.params u1 u2 u3 u4 u5 u6 y mo d 0 0 0 t1 t2 t3 t4 t5 t6) :: news) →
      (∀ p ∈ news, p.1 < dx) → dx < x → Q (.ref x) { s with heap := h', toks := tk' }) :
    wpAny (model PR w) (ktrH hdl dp un gd cn cs L a ccd cl outer) (call (.ref 104) [.int y t1, .int mo t2, .int d t3]) Q E s := by
  have hv2 : (1980 ≤ y ∧ y ≤ 2107 ∧ 1 ≤ mo ∧ mo ≤ 12 ∧ 1 ≤ d ∧ d ≤ lawLen y mo) ∧ (0 : Int) ≤ 0 ∧ (0 : Int) ≤ 23 ∧ (0 : Int) ≤ 0 ∧ (0 : Int) ≤ 59 ∧ (0 : Int) ≤ 0 ∧ (0 : Int) ≤ 59 := ⟨hv, by decide, by decide, by decide, by decide, by decide, by decide⟩
  clear hv
  k_steps
  all_goals (exact ret _ _ _ _ _ _ _ _ _ _ _ _ _ (by k_asm) (by walk_at "my:n") (by walk_at "my:lt") (by assumption))
theorem layj_10 : True := by
  k_with "call ref" => (first | (k_here; (with_reducible show wpAny _ _ (call (Value.ref 104) _ _) _ _ _); k_dflt (refine' c_dt3 (by first | assumption | (and_intros <;> first | omega | decide) | fail) (by k_asm) (by k_asm) (by k_asm) (by k_asm) (by k_asm) (by first | exact rfl | assumption) (by walk_at "my:room") (by walk_at "my:room") ?_; k_whole); intro x9 d9 u19 u29 u39 u49 u59 u69 t49 t59 t69 h9 tk9 F9 N9 lt9 l29; (try k_lt lt9); (try k_lt2 l29); (try dsimp only); (try k_fold)) | fail)
  trivial
theorem date_facts {wd : Int} (h : 0 ≤ wd ∧ wd < 65536) : ∀ y mo d : Int, y = Builtin.bitAnd (wd.fdiv (2 ^ Int.toNat 9)) (1 * 2 ^ Int.toNat 7 - 1) + 1980 → mo = Builtin.bitAnd (wd.fdiv (2 ^ Int.toNat 5)) (1 * 2 ^ Int.toNat 4 - 1) → d = Builtin.bitAnd wd (1 * 2 ^ Int.toNat 5 - 1) →
    ((1980 ≤ y ∧ y ≤ 2107) ∧ 0 ≤ mo ∧ mo ≤ 15 ∧ 0 ≤ d ∧ d ≤ 31) ∧
    (((1980 ≤ y ∧ y ≤ 2107 ∧ 1 ≤ mo ∧ mo ≤ 12 ∧ 1 ≤ d ∧ d ≤ lawLen y mo) ∧ (lawDate wd).getD (1980, 1, 1) = (y, mo, d)) ∨
     ((lawDate wd).getD (1980, 1, 1) = (1980, 1, 1) ∧
      (1 ≤ mo → mo ≤ 12 → 1 ≤ d → leapD mo y ([31, 28, 31, 30, 31, 30, 31, 31, 30, 31, 30, 31].getD (mo - 1).toNat (0 : Int)) < d))) := by
  intro y mo d ey em ed
  have e1 : wd.fdiv 32 = wd / 32 := Int.fdiv_eq_ediv_of_nonneg _ (by decide)
  have e2 : ∀ x : Int, x.fdiv 16 = x / 16 := fun x => Int.fdiv_eq_ediv_of_nonneg _ (by decide)
  have e3 : ∀ x : Int, x.fmod 16 = x % 16 := fun x => Int.fmod_eq_emod_of_nonneg _ (by decide)
  have e4 : wd.fmod 32 = wd % 32 := Int.fmod_eq_emod_of_nonneg _ (by decide)
  have e5 : wd.fdiv (2 ^ Int.toNat 9) = wd / 512 := Int.fdiv_eq_ediv_of_nonneg _ (by decide)
  have e6 : wd.fdiv (2 ^ Int.toNat 5) = wd / 32 := Int.fdiv_eq_ediv_of_nonneg _ (by decide)
  have e7 : (1 * 2 ^ Int.toNat 5 - 1 : Int) = 31 := rfl
  have e8 : (1 * 2 ^ Int.toNat 4 - 1 : Int) = 15 := rfl
  have e9 : (1 * 2 ^ Int.toNat 7 - 1 : Int) = 127 := rfl
  rw [e5, e9, bitAnd_m7] at ey
  rw [e6, e8, bitAnd_m4] at em
  rw [e7, bitAnd_m5] at ed
  have hy : (wd.fdiv 32).fdiv 16 + 1980 = y := by rw [e1, e2]; omega
  have hm : (wd.fdiv 32).fmod 16 = mo := by rw [e1, e3]; omega
  have hd : wd.fmod 32 = d := by rw [e4]; omega
  clear e1 e2 e3 e4 e5 e6 e7 e8 e9
  refine ⟨by omega, ?_⟩
  unfold lawDate
  rw [hy, hm, hd]
  by_cases hv : 1 ≤ mo ∧ mo ≤ 12 ∧ 1 ≤ d ∧ d ≤ lawLen y mo
  · rw [if_pos hv]; exact .inl ⟨⟨by omega, by omega, hv⟩, rfl⟩
  · rw [if_neg hv]
    refine .inr ⟨rfl, ?_⟩
    have n : ∀ (a : 1 ≤ mo) (b : mo ≤ 12) (c : 1 ≤ d), ¬ d ≤ lawLen y mo := fun a b c z => hv ⟨a, b, c, z⟩
    exact fun a b c => (leap_len a b).symm ▸ Int.not_le.mp (n a b c)
theorem c_ddate {g₀ : Heap} {wd : Int} {tw : Tok} (hw : 0 ≤ wd ∧ wd < 65536) (B : Below A₀ base outer h₀) (F : Fr h₀ L s.heap m) (X : (KK w.params).In h₀) (N : News h₀ L s.heap news) (T : Top VW LO mean mg mb h₀) (hk : cs.kind = .function) (hd : dp + 8 < recursionLimit) (hu : un + 64 < cLine)
    (XB : (KK w.params).In base) (TB : Top VW LO mean mg mb base) (D : KtsDicts (outer.filterMap (·.frame)) h₀) (T0 : KtsTurn (outer.filterMap (·.frame)) g₀ h₀)
    (ret : ∀ y mo d, (lawDate wd).getD (1980, 1, 1) = (y, mo, d) → ∀ h₀' x dx u1 u2 u3 u4 u5 u6 t1 t2 t3 t4 t5 t6 h' tk', Fr h₀' L h' m → News h₀' L h' ((x, instObj 104 dx) :: (dx, dtDict w.params u1 u2 u3 u4 u5 u6 y mo d 0 0 0 t1 t2 t3 t4 t5 t6) :: news) →
      (∀ p ∈ news, p.1 < dx) → dx < x → Below A₀ base outer h₀' → (KK w.params).In h₀' → Top VW LO mean mg mb h₀' → KtsDicts (outer.filterMap (·.frame)) h₀' → KtsTurn (outer.filterMap (·.frame)) g₀ h₀' → Q (.ref x) { s with heap := h', toks := tk' }) :
    wpAny (model PR w) (ktrTop dp un gd cn cs L a ccd cl outer) (call (.ref 88) [.int wd tw]) Q E s := by
  obtain ⟨v1, v2⟩ := date_facts hw _ _ _ rfl rfl rfl
  have p1 : (1980 : Int) ≤ 1980 ∧ (1980 : Int) ≤ 2107 ∧ (1 : Int) ≤ 1 ∧ (1 : Int) ≤ 12 ∧ (1 : Int) ≤ 1 ∧ (1 : Int) ≤ lawLen 1980 1 := by
    refine ⟨by decide, by decide, by decide, by decide, by decide, ?_⟩
    rw [show lawLen 1980 1 = 31 by simp [lawLen]]
    decide
  walk_at "my:inS"
  (k_with "exec Try" => first | (k_here; rename _ ∨ (_ ∧ (_ → _ → _ → leapD _ _ _ < _)) => v2; rcases v2 with ⟨v3, v4⟩ | ⟨v4, n1⟩) | fail)
  k_steps
  all_goals (exact ret _ _ _ v4 _ _ _ _ _ _ _ _ _ _ _ _ _ _ _ _ _ (by k_asm) (by walk_at "my:n") (by walk_at "my:lt") (by assumption) (by assumption) (by assumption) (by assumption) (by assumption) (by assumption))
theorem layj_11 : True := by
  k_with "call ref" => (first | (k_here; (with_reducible show wpAny _ _ (call (Value.ref 88) _ _) _ _ _); k_dflt (refine' c_ddate (by walk_at "my:p") (by k_asm) (by k_asm) (by k_asm) (by k_asm) (by k_asm) (by first | exact rfl | assumption) (by walk_at "my:room") (by walk_at "my:room") (by assumption) (by assumption) (by assumption) (by first | assumption | exact KtsTurn.refl) ?_; k_whole); intro y9 mo9 d9 hs9 g9 x9 dx9 u19 u29 u39 u49 u59 u69 t19 t29 t39 t49 t59 t69 h9 tk9 F9 N9 lt9 l29 B9 X9 T9 D9 K9; (try k_lt lt9); (try k_lt2 l29); (try dsimp only); (try k_fold)) | fail)
  trivial
def cntY (n y : Int) : Prop := 0 ≤ n ∧ 1980 ≤ y ∧ y ≤ 2107 ∧ (y % 4 = 0 → n < 1461) ∧ (y % 4 = 1 → n < 1095) ∧ (y % 4 = 2 → n < 730) ∧ (y % 4 = 3 → n < 365) ∧ (y = 2100 → n ≠ 59)
theorem cnt0 {N : Int} (h0 : 0 ≤ N) (h1 : N ≤ 46751) (h2 : N ≠ 43889) : cntY (N.fmod 1461) (1980 + 4 * N.fdiv 1461) := by
  have e1 : N.fdiv 1461 = N / 1461 := Int.fdiv_eq_ediv_of_nonneg _ (by decide)
  have e2 : N.fmod 1461 = N % 1461 := Int.fmod_eq_emod_of_nonneg _ (by decide)
  rw [e1, e2]; unfold cntY; omega
theorem cnt1 {n y : Int} (h : cntY n y) (hf : y.fmod 4 = 0) (hn : 366 ≤ n) : cntY (n - 366) (y + 1) := by
  have e2 : y.fmod 4 = y % 4 := Int.fmod_eq_emod_of_nonneg _ (by decide)
  obtain ⟨a0, a1, a2, a3, a4, a5, a6, a7⟩ := h
  rw [e2] at hf
  have a8 := a3 hf
  clear a3 a4 a5 a6
  exact ⟨by omega, by omega, by omega, by omega, by omega, by omega, by omega, by omega⟩
theorem cnt2 {n y : Int} (h : cntY n y) (hf : ¬ y.fmod 4 = 0) (hn : 365 ≤ n) : cntY (n - 365) (y + 1) := by
  have e2 : y.fmod 4 = y % 4 := Int.fmod_eq_emod_of_nonneg _ (by decide)
  obtain ⟨a0, a1, a2, a3, a4, a5, a6, a7⟩ := h
  rw [e2] at hf
  clear a3 a7
  have c : (y % 4 = 1 ∧ n < 1095) ∨ (y % 4 = 2 ∧ n < 730) := by
    have : y % 4 = 1 ∨ y % 4 = 2 ∨ y % 4 = 3 := by omega
    rcases this with c | c | c
    · exact .inl ⟨c, a4 c⟩
    · exact .inr ⟨c, a5 c⟩
    · have := a6 c; omega
  clear a4 a5 a6 hf e2
  rcases c with ⟨c, d⟩ | ⟨c, d⟩ <;> exact ⟨by omega, by omega, by omega, by omega, by omega, by omega, by omega, by omega⟩
theorem cnt_pos {n y : Int} (h : cntY n y) : 0 ≤ n := h.1
noncomputable def cntR (mo : Int) : Int := [366, 335, 306, 275, 245, 214, 184, 153, 122, 92, 61, 31].getD (mo - 1).toNat 0
def cntM (sz n mo y : Int) : Prop := 0 ≤ n ∧ 1 ≤ mo ∧ mo ≤ 12 ∧ 1980 ≤ y ∧ y ≤ 2107 ∧
  sz = (if mo = 2 then (if y.fmod 4 = 0 then 29 else 28) else [31, 28, 31, 30, 31, 30, 31, 31, 30, 31, 30, 31].getD (mo - 1).toNat (0 : Int)) ∧
  n < cntR mo ∧ (mo ≤ 2 → y.fmod 4 ≠ 0 → n < cntR mo - 1) ∧ (y = 2100 → mo = 1 → n ≠ 59) ∧ (y = 2100 → mo = 2 → n ≠ 28)
theorem cntR_tab : ∀ k : Nat, k < 13 → 3 ≤ k → cntR (k : Int) - [31, 28, 31, 30, 31, 30, 31, 31, 30, 31, 30, 31].getD (k - 1) (0 : Int) = cntR ((k : Int) + 1) := by decide
theorem cntR_step {mo : Int} (h1 : 3 ≤ mo) (h2 : mo ≤ 12) : cntR mo - [31, 28, 31, 30, 31, 30, 31, 31, 30, 31, 30, 31].getD (mo - 1).toNat (0 : Int) = cntR (mo + 1) := by
  obtain ⟨k, rfl⟩ := Int.eq_ofNat_of_zero_le (show 0 ≤ mo by omega)
  rw [show ((k : Int) - 1).toNat = k - 1 by omega]
  exact cntR_tab k (by omega) (by omega)
theorem cntM0 {n y : Int} (h : cntY n y) (h1 : y.fmod 4 = 0 → n < 366) (h2 : ¬ y.fmod 4 = 0 → n < 365) : cntM 31 n 1 y := by
  refine ⟨h.1, by decide, by decide, h.2.1, h.2.2.1, rfl, ?_, fun _ => h2, fun e _ => h.2.2.2.2.2.2.2 e, fun _ c => absurd c (by decide)⟩
  by_cases c : y.fmod 4 = 0
  · exact h1 c
  · exact Int.lt_trans (h2 c) (by decide)
theorem cntM1 {sz n mo y sz' : Int} (h : cntM sz n mo y) (hn : sz ≤ n) (hs : sz' = if mo + 1 = 2 ∧ y.fmod 4 = 0 then 29 else lawLen y (mo + 1)) : cntM sz' (n - sz) (mo + 1) y := by
  obtain ⟨a1, a2, a3, a4, a5, a6, a7, a8, a9, a10⟩ := h
  have e3 : y = 2100 → y.fmod 4 = 0 := fun e => by subst e; rfl
  have d1 : cntR 1 = 366 := rfl
  have d2 : cntR 2 = 335 := rfl
  have d3 : cntR (1 + 1) = 335 := rfl
  have d4 : cntR (2 + 1) = 306 := rfl
  have hs' : mo + 1 ≤ 12 → sz' = (if mo + 1 = 2 then (if y.fmod 4 = 0 then 29 else 28) else [31, 28, 31, 30, 31, 30, 31, 31, 30, 31, 30, 31].getD (mo + 1 - 1).toNat (0 : Int)) := fun hm => by
    rw [hs]
    by_cases c1 : mo + 1 = 2
    · rw [if_pos c1, c1, lawLen_two]
      by_cases c2 : y.fmod 4 = 0
      · rw [if_pos ⟨rfl, c2⟩, if_pos c2]
      · rw [if_neg (fun c => c2 c.2), if_neg (fun c => c2 c.1), if_neg c2]
    · rw [if_neg (fun c => c1 c.1), if_neg c1]
      exact lawLen_tab (by omega) hm c1
  clear hs
  by_cases c1 : mo = 1
  · subst c1
    rw [if_neg (by decide)] at a6
    replace a6 : sz = 31 := a6
    subst a6
    rw [d1] at a7 a8
    refine ⟨by omega, by decide, by decide, a4, a5, hs' (by decide), by rw [d3]; omega, fun _ c => ?_, fun _ c => absurd c (by decide), fun e _ => ?_⟩
    · rw [d3]; have := a8 (by decide) c; omega
    · have := a9 e rfl; omega
  · by_cases c2 : mo = 2
    · subst c2
      rw [if_pos rfl] at a6
      rw [d2] at a7 a8
      refine ⟨by omega, by decide, by decide, a4, a5, hs' (by decide), ?_, fun c => absurd c (by decide), fun _ c => absurd c (by decide), fun _ c => absurd c (by decide)⟩
      rw [d4]
      by_cases c3 : y.fmod 4 = 0
      · rw [if_pos c3] at a6; omega
      · rw [if_neg c3] at a6; have := a8 (by decide) c3; omega
    · rw [if_neg c2] at a6
      have st := cntR_step (show 3 ≤ mo by omega) a3
      rw [← a6] at st
      have m12 : mo ≠ 12 := fun c => by
        subst c
        have q1 : cntR (12 + 1) = 0 := rfl
        omega
      exact ⟨by omega, by omega, by omega, a4, a5, hs' (by omega), by omega, fun c => by omega, fun _ c => by omega, fun _ c => by omega⟩
theorem cnt_end {sz n mo y : Int} (h : cntM sz n mo y) (hn : n < sz) : 1980 ≤ y ∧ y ≤ 2107 ∧ 1 ≤ mo ∧ mo ≤ 12 ∧ 1 ≤ n + 1 ∧ n + 1 ≤ lawLen y mo := by
  obtain ⟨a1, a2, a3, a4, a5, a6, a7, a8, a9, a10⟩ := h
  refine ⟨a4, a5, a2, a3, by omega, ?_⟩
  by_cases c1 : mo = 2
  · subst c1
    rw [if_pos rfl] at a6
    rw [lawLen_two]
    by_cases c2 : y.fmod 4 = 0
    · rw [if_pos c2] at a6
      by_cases c3 : y = 2100
      · rw [if_neg (fun c => c.2 c3)]; have := a10 c3 rfl; omega
      · rw [if_pos ⟨c2, c3⟩]; omega
    · rw [if_neg c2] at a6; rw [if_neg (fun c => c2 c.1)]; omega
  · rw [if_neg c1] at a6; rw [lawLen_tab a2 a3 c1]; omega
theorem cntM_pos {sz n mo y : Int} (h : cntM sz n mo y) : 0 ≤ n ∧ 28 ≤ sz := by
  obtain ⟨a1, a2, a3, a4, a5, a6, a7, a8, a9, a10⟩ := h
  refine ⟨a1, ?_⟩
  by_cases c1 : mo = 2
  · subst c1; rw [if_pos rfl] at a6
    by_cases c2 : y.fmod 4 = 0
    · rw [if_pos c2] at a6; omega
    · rw [if_neg c2] at a6; omega
  · rw [if_neg c1] at a6
    obtain ⟨k, rfl⟩ := Int.eq_ofNat_of_zero_le (show 0 ≤ mo by omega)
    rw [show ((k : Int) - 1).toNat = k - 1 by omega] at a6
    have : ∀ k : Nat, k < 13 → 1 ≤ k → 28 ≤ [31, 28, 31, 30, 31, 30, 31, 31, 30, 31, 30, 31].getD (k - 1) (0 : Int) := by decide
    rw [a6]; exact this k (by omega) (by omega)

theorem fall {n k : Int} (h : k ≤ n) (hk : 0 < k) : (n - k).toNat < n.toNat := by omega
noncomputable abbrev incIf : Stmt := lit (nthSt f22B 0) _ (by conv => lhs; whnf)
@[irreducible] noncomputable def incN (n : Int) : Int := if 43889 ≤ n then n + 1 else n
theorem incN_facts {n : Int} (h : 0 ≤ n ∧ n ≤ 46750) : 0 ≤ incN n ∧ incN n ≤ 46751 ∧ incN n ≠ 43889 := by
  unfold incN
  split <;> exact ⟨by omega, by omega, by omega⟩
theorem st_inc {A : Around} {QF : Flow → Shared → Prop} {n : Int} {tn : Tok} {g : Heap} {L' : Addr} {m' : Str → Option Value} (F : Fr g L' s.heap m') (X : (KK w.params).In g) (N : News g L' s.heap news)
    (hn : m' (Str.ofString "number") = some (.int n tn)) (hr : 0 ≤ n ∧ n ≤ 46750)
    (ret : ∀ t h' tk', Fr g L' h' (fun z => if z = Str.ofString "number" then some (.int (incN n) t) else m' z) → News g L' h' news → QF .next { s with heap := h', toks := tk' }) :
    wpAny (model PR w) A (exec incIf (envOf (Str.ofString "_law_count") f22S L' 712 (.ref 711))) QF E s := by
  have same : m' = fun z => if z = Str.ofString "number" then some (.int n tn) else m' z := by
    funext z
    by_cases h : z = Str.ofString "number"
    · subst h; rw [if_pos rfl]; exact hn
    · rw [if_neg h]
  have e0 : fo [(Str.ofString "number", .int n tn)] m' = m' := fo_cons (by assumption) fo_nil
  have F0 : Fr g L' s.heap (fo [(Str.ofString "number", .int n tn)] m') := by rw [e0]; exact F
  have F2 : Unit → Fr g L' s.heap (fun z => if z = Str.ofString "number" then some (.int n tn) else m' z) := fun _ => Eq.mp (congrArg (Fr g L' s.heap) same) F
  clear F
  unfold incN at ret
  dsimp only [incIf, lit]
  k_steps
  all_goals (try dsimp only)
  all_goals (by_cases hc : 43889 ≤ n)
  all_goals first | rw [if_pos hc] at ret | rw [if_neg hc] at ret
  all_goals first
    | (exfalso; omega)
    | exact ret _ _ _ (F2 ()) N
    | (simp only [e0] at *; exact ret _ _ _ (by assumption) (by assumption))
theorem c_count {N : Int} {tN : Tok} (hw : 0 ≤ N ∧ N ≤ 46750) (B : Below A₀ base outer h₀) (F : Fr h₀ L s.heap m) (X : (KK w.params).In h₀) (N0 : News h₀ L s.heap news) (T : Top VW LO mean mg mb h₀) (hk : cs.kind = .function) (hd : dp + 4 < recursionLimit) (hu : un + 32 < cLine)
    (ret : ∀ y mo d, (1980 ≤ y ∧ y ≤ 2107 ∧ 1 ≤ mo ∧ mo ≤ 12 ∧ 1 ≤ d ∧ d ≤ lawLen y mo) → ∀ l t1 t2 t3 h' tk', Fr h₀ L h' m → News h₀ L h' ((l, W.listOf #[.int y t1, .int mo t2, .int d t3] 0) :: news) → (∀ p ∈ news, p.1 < l) → Q (.ref l) { s with heap := h', toks := tk' }) :
    wpAny (model PR w) (ktrTop dp un gd cn cs L a ccd cl outer) (call (.ref 712) [.int N tN]) Q E s := by
  have z0 := incN_facts hw
  have z1 : cntY ((incN N).fmod 1461) (1980 + 4 * (incN N).fdiv 1461) := cnt0 z0.1 z0.2.1 z0.2.2
  walk_at "my:in"
  (k_with "exec If" => (first | (k_here; (with_reducible show wpAny _ _ (exec incIf _) _ _ _); k_dflt (refine' st_inc (by assumption) (by assumption) (by assumption) (by exact rfl) (by assumption) ?_; k_whole); intro t9 h9 tk9 F9 N9; (try dsimp only); (try k_fold)) | fail))
  (k_with "state" => first
    | exact z1
    | (refine cnt1 (by assumption) ?_ ?_ <;> first | assumption | omega)
    | (refine cnt2 (by assumption) ?_ ?_ <;> first | assumption | omega)
    | (refine cntM0 (by assumption) ?_ ?_ <;> first | omega | (intro hh; first | omega | (exfalso; omega)))
    | (refine cntM1 (by assumption) (by first | assumption | omega) ?_; first | (rw [if_pos ⟨by assumption, by assumption⟩]; done) | (rw [if_neg (fun c => absurd c.1 (by assumption))]; done) | (rw [if_neg (fun c => absurd c.2 (by assumption))]; done) | (rw [if_pos (by omega)]; done) | (rw [if_neg (by omega)]; done) | omega))
  (k_with "measure" => first
    | exact fall (by assumption) (by decide)
    | exact fall (by assumption) (Int.lt_of_lt_of_le (by decide) (cntM_pos (by assumption)).2)
    | (have hp := cnt_pos (by assumption); omega)
    | (have hM := cntM_pos (by assumption); omega)
    | (rename cntY _ _ => hY; have h1 := hY.1; omega))
  (k_with "exec While Compare cons nil" => k_while_given ["year"] (fun y₀ script n sz mo => cntM sz n mo y₀) (fun y₀ script n sz mo => n.toNat) "number" "size" "month")
  (k_with "exec While Compare cons nil" => k_while (fun script n y => cntY n y) (fun script n y => n.toNat) "number" "year")
  k_steps
  all_goals (refine' ret _ _ _ (cnt_end (by assumption) (by omega)) _ _ _ _ _ _ (by k_asm) (by walk_at "my:n") ?_)
  all_goals (first | (rename _ ∧ AllLt _ _ => l9; intro p9 hp9; exact ktn_ltOf l9.2 p9 hp9) | walk_at "my:lt")
theorem layj_12 : True := by
  k_with "call ref" => (first | (k_here; (with_reducible show wpAny _ _ (call (Value.ref 712) _ _) _ _ _); k_dflt (refine' c_count (by walk_at "my:p") (by k_asm) (by k_asm) (by k_asm) (by k_asm) (by k_asm) (by first | exact rfl | assumption) (by walk_at "my:room") (by walk_at "my:room") ?_; k_whole); intro y9 mo9 d9 hs9 l9 t19 t29 t39 h9 tk9 F9 N9 lt9; (try k_lt lt9); (try dsimp only); (try k_fold)) | fail)
  trivial
theorem c_six {x dx : Addr} {y mo d ho mi se : Int} {u1 u2 u3 u4 u5 u6 t1 t2 t3 t4 t5 t6 : Tok} (B : Below A₀ base outer h₀) (F : Fr h₀ L s.heap m) (X : (KK w.params).In h₀) (N : News h₀ L s.heap news) (T : Top VW LO mean mg mb h₀) (hk : cs.kind = .function) (hd : dp + 2 < recursionLimit) (hu : un + 16 < cLine) (hx : (x, instObj 104 dx) ∈ news) (hdx : (dx, dtDict w.params u1 u2 u3 u4 u5 u6 y mo d ho mi se t1 t2 t3 t4 t5 t6) ∈ news)
    (ret : ∀ l h' tk', Fr h₀ L h' m → News h₀ L h' ((l, W.listOf #[.int y t1, .int mo t2, .int d t3, .int ho t4, .int mi t5, .int se t6] 0) :: news) → (∀ p ∈ news, p.1 < l) → Q (.ref l) { s with heap := h', toks := tk' }) :
    wpAny (model PR w) (ktrTop dp un gd cn cs L a ccd cl outer) (call (.ref 719) [.ref x]) Q E s := by
  walk_at "my:in"
  k_steps
  all_goals (refine' ret _ _ _ (by k_asm) (by walk_at "my:n") ?_)
  all_goals (first | (rename _ ∧ AllLt _ _ => l9; intro p9 hp9; exact ktn_ltOf l9.2 p9 hp9) | walk_at "my:lt")
theorem layj_13 : True := by
  k_with "call ref" => (first | (k_here; (with_reducible show wpAny _ _ (call (Value.ref 719) _ _) _ _ _); k_dflt (refine' c_six (by k_asm) (by k_asm) (by k_asm) (by k_asm) (by k_asm) (by first | exact rfl | assumption) (by walk_at "my:room") (by walk_at "my:room") (by k_mem) (by k_mem) ?_; k_whole); intro l9 h9 tk9 F9 N9 lt9; (try k_lt lt9); (try dsimp only); (try k_fold)) | fail)
  trivial
theorem and_apart (a : Int) : ∀ (k : Nat) (b : Int), 0 ≤ b → b < 2 ^ k → Builtin.bitAnd (a * 2 ^ k) b = 0
  | 0, b, h0, h1 => by
    have : b = 2 ^ 0 - 1 := by simp at h1; omega
    rw [this, kbt_mask]; omega
  | k + 1, b, h0, h1 => by
    have e : a * 2 ^ (k + 1) = 2 * (a * 2 ^ k) := by rw [Int.pow_succ]; rw [← Int.mul_assoc, Int.mul_comm]
    have e1 : a * 2 ^ (k + 1) / 2 = a * 2 ^ k := by rw [e]; omega
    have e2 : a * 2 ^ (k + 1) % 2 = 0 := by rw [e]; omega
    have h2 : b / 2 < 2 ^ k := by rw [Int.pow_succ] at h1; omega
    rw [kbt_halves, e1, and_apart a k (b / 2) (by omega) h2, e2]
    simp
theorem or_pack (a : Int) (k : Nat) (b : Int) (h0 : 0 ≤ b) (h1 : b < 2 ^ k) : Builtin.bitOr (a * 2 ^ k) b = a * 2 ^ k + b := by
  rw [bitOr_and, and_apart a k b h0 h1, Int.sub_zero]
theorem date_word {y mo d : Int} (hv : 1980 ≤ y ∧ y ≤ 2107 ∧ 0 ≤ mo ∧ mo ≤ 15 ∧ 0 ≤ d ∧ d ≤ 31) : Builtin.bitOr (Builtin.bitOr ((y - 1980) * 2 ^ Int.toNat 9) (mo * 2 ^ Int.toNat 5)) d = (y - 1980) * 512 + mo * 32 + d := by
  have e9 : (2 : Int) ^ Int.toNat 9 = 512 := rfl
  have e5 : (2 : Int) ^ Int.toNat 5 = 32 := rfl
  rw [or_pack (y - 1980) (Int.toNat 9) (mo * 2 ^ Int.toNat 5) (by rw [e5]; omega) (by rw [e5, e9]; omega)]
  rw [show (y - 1980) * 2 ^ Int.toNat 9 + mo * 2 ^ Int.toNat 5 = ((y - 1980) * 16 + mo) * 2 ^ Int.toNat 5 by rw [e5, e9]; omega]
  rw [or_pack _ (Int.toNat 5) d (by omega) (by rw [e5]; omega), e5]
  omega
theorem time_word {ho mi se : Int} (hv : 0 ≤ ho ∧ ho ≤ 23 ∧ 0 ≤ mi ∧ mi ≤ 59 ∧ 0 ≤ se ∧ se ≤ 59) : Builtin.bitOr (Builtin.bitOr (ho * 2 ^ Int.toNat 11) (mi * 2 ^ Int.toNat 5)) ((se - se.fmod 2).fdiv 2) = ho * 2048 + mi * 32 + se / 2 := by
  have e9 : (2 : Int) ^ Int.toNat 11 = 2048 := rfl
  have e5 : (2 : Int) ^ Int.toNat 5 = 32 := rfl
  have e1 : se.fmod 2 = se % 2 := Int.fmod_eq_emod_of_nonneg _ (by decide)
  have e2 : (se - se % 2).fdiv 2 = (se - se % 2) / 2 := Int.fdiv_eq_ediv_of_nonneg _ (by decide)
  rw [e1, e2, show (se - se % 2) / 2 = se / 2 by omega]
  rw [or_pack ho (Int.toNat 11) (mi * 2 ^ Int.toNat 5) (by rw [e5]; omega) (by rw [e5, e9]; omega)]
  rw [show ho * 2 ^ Int.toNat 11 + mi * 2 ^ Int.toNat 5 = (ho * 64 + mi) * 2 ^ Int.toNat 5 by rw [e5, e9]; omega]
  rw [or_pack _ (Int.toNat 5) (se / 2) (by omega) (by rw [e5]; omega), e5]
  omega
theorem m_serd {R : Result → Shared → Prop} {x dx : Addr} {y mo d ho mi se : Int} {u1 u2 u3 u4 u5 u6 t1 t2 t3 t4 t5 t6 : Tok} (B : Below A₀ base outer h₀) (F : Fr h₀ L s.heap m) (X : (KK w.params).In h₀) (N : News h₀ L s.heap news) (T : Top VW LO mean mg mb h₀) (hk : cs.kind = .function) (hd : dp + 2 < recursionLimit) (hu : un + 16 < cLine) (hx : (x, instObj 104 dx) ∈ news) (hdx : (dx, dtDict w.params u1 u2 u3 u4 u5 u6 y mo d ho mi se t1 t2 t3 t4 t5 t6) ∈ news) (hv : 1980 ≤ y ∧ y ≤ 2107 ∧ 0 ≤ mo ∧ mo ≤ 15 ∧ 0 ≤ d ∧ d ≤ 31)
    (ret : ∀ v t h' tk', v = (y - 1980) * 512 + mo * 32 + d → Fr h₀ L h' m → News h₀ L h' news → R (.ok (.ret (.int v t))) { s with heap := h', toks := tk' }) :
    codeAny (model PR w) (ktrTop dp un gd cn cs L a ccd cl outer) (.call (.ref 74) ⟨[.ref x], []⟩) R s := by
  walk_at "my:enter"
  k_steps
  all_goals (refine' ret _ _ _ _ (date_word hv) (by k_asm) (by walk_at "my:n"))
theorem m_sert {R : Result → Shared → Prop} {x dx : Addr} {y mo d ho mi se : Int} {u1 u2 u3 u4 u5 u6 t1 t2 t3 t4 t5 t6 : Tok} (B : Below A₀ base outer h₀) (F : Fr h₀ L s.heap m) (X : (KK w.params).In h₀) (N : News h₀ L s.heap news) (T : Top VW LO mean mg mb h₀) (hk : cs.kind = .function) (hd : dp + 2 < recursionLimit) (hu : un + 16 < cLine) (hx : (x, instObj 104 dx) ∈ news) (hdx : (dx, dtDict w.params u1 u2 u3 u4 u5 u6 y mo d ho mi se t1 t2 t3 t4 t5 t6) ∈ news) (hv : 0 ≤ ho ∧ ho ≤ 23 ∧ 0 ≤ mi ∧ mi ≤ 59 ∧ 0 ≤ se ∧ se ≤ 59)
    (ret : ∀ v t h' tk', v = ho * 2048 + mi * 32 + se / 2 → Fr h₀ L h' m → News h₀ L h' news → R (.ok (.ret (.int v t))) { s with heap := h', toks := tk' }) :
    codeAny (model PR w) (ktrTop dp un gd cn cs L a ccd cl outer) (.call (.ref 81) ⟨[.ref x], []⟩) R s := by
  walk_at "my:enter"
  k_steps
  all_goals (refine' ret _ _ _ _ (time_word hv) (by k_asm) (by walk_at "my:n"))
theorem layj_14 : True := by
  k_with "call ref" => (first | (k_here; (first | (with_reducible show wpAny _ _ (call (Value.ref 74) _ _) _ _ _) | (with_reducible show wpAny _ _ (call (Value.ref 81) _ _) _ _ _)); k_dflt (refine wpAny_call ?_; first | (refine' m_serd (by k_asm) (by k_asm) (by k_asm) (by k_asm) (by k_asm) (by first | exact rfl | assumption) (by walk_at "my:room") (by walk_at "my:room") (by k_mem) (by k_mem) (by walk_at "my:p") ?_) | (refine' m_sert (by k_asm) (by k_asm) (by k_asm) (by k_asm) (by k_asm) (by first | exact rfl | assumption) (by walk_at "my:room") (by walk_at "my:room") (by k_mem) (by k_mem) (by walk_at "my:p") ?_); k_whole); intro v9 t9 h9 tk9 hv9 F9 N9; (subst hv9); (try dsimp only); (try k_fold)) | fail)
  trivial
theorem c_comb {xd dd xt dt : Addr} {y mo d ho0 mi0 se0 ho mi se : Int} {u1 u2 u3 u4 u5 u6 t1 t2 t3 t4 t5 t6 v1 v2 v3 r1 r2 r3 : Tok} (B : Below A₀ base outer h₀) (F : Fr h₀ L s.heap m) (X : (KK w.params).In h₀) (N : News h₀ L s.heap news) (T : Top VW LO mean mg mb h₀) (hk : cs.kind = .function) (hd : dp + 8 < recursionLimit) (hu : un + 64 < cLine) (hx : (xd, instObj 104 dd) ∈ news) (hdx : (dd, dtDict w.params u1 u2 u3 u4 u5 u6 y mo d ho0 mi0 se0 t1 t2 t3 t4 t5 t6) ∈ news) (hy : (xt, instObj 38 dt) ∈ news) (hdy : (dt, tmDict w.params v1 v2 v3 ho mi se r1 r2 r3) ∈ news) (hv : (1980 ≤ y ∧ y ≤ 2107 ∧ 1 ≤ mo ∧ mo ≤ 12 ∧ 1 ≤ d ∧ d ≤ lawLen y mo) ∧ 0 ≤ ho ∧ ho ≤ 23 ∧ 0 ≤ mi ∧ mi ≤ 59 ∧ 0 ≤ se ∧ se ≤ 59)
    (ret : ∀ x dx u1 u2 u3 u4 u5 u6 h' tk', Fr h₀ L h' m → News h₀ L h' ((x, instObj 104 dx) :: (dx, dtDict w.params u1 u2 u3 u4 u5 u6 y mo d ho mi se t1 t2 t3 r1 r2 r3) :: news) →
      (∀ p ∈ news, p.1 < dx) → dx < x → Q (.ref x) { s with heap := h', toks := tk' }) :
    wpAny (model PR w) (ktrTop dp un gd cn cs L a ccd cl outer) (call (.ref 64) [.ref xd, .ref xt]) Q E s := by
  walk_at "my:in"
  k_steps
  all_goals (exact ret _ _ _ _ _ _ _ _ _ _ (by k_asm) (by walk_at "my:n") (by walk_at "my:lt") (by assumption))
theorem layj_15 : True := by
  k_with "call ref" => (first | (k_here; (with_reducible show wpAny _ _ (call (Value.ref 64) _ _) _ _ _); k_dflt (refine' c_comb (by k_asm) (by k_asm) (by k_asm) (by k_asm) (by k_asm) (by first | exact rfl | assumption) (by walk_at "my:room") (by walk_at "my:room") (by k_mem) (by k_mem) (by k_mem) (by k_mem) (by walk_at "my:p") ?_; k_whole); intro x9 d9 u19 u29 u39 u49 u59 u69 h9 tk9 F9 N9 lt9 l29; (try k_lt lt9); (try k_lt2 l29); (try dsimp only); (try k_fold)) | fail)
  trivial
theorem turn_nil {g g' : Heap} (T : KtsTurn [] g g') : (∀ b o, g.get? b = some o → g'.get? b = some o) ∧ (∀ b, g'.get? b = none → g.get? b = none) ∧ g'.objs.size = g.objs.size :=
  ⟨fun b o e => T.other b o e (fun h => nomatch h), fun b e => kts_none (fun b o e => T.other b o e (fun h => nomatch h)) e, T.size⟩
theorem turn_fr {g g' h : Heap} {L : Addr} {m : Str → Option Value} (T : KtsTurn [] g g') (F : Fr g' L h m) : Fr g L h m := ⟨F.ns, fun b o e => F.keep b o ((turn_nil T).1 b o e), by rw [← (turn_nil T).2.2]; exact F.above⟩
theorem turn_news {g g' h : Heap} {L : Addr} {news : List (Addr × Obj)} (T : KtsTurn [] g g') (N : News g' L h news) : News g L h news := fun p hp => ⟨(N p hp).1, (N p hp).2.1, (turn_nil T).2.1 _ (N p hp).2.2⟩
local macro_rules | `(tactic| k_mem) => `(tactic| walk_at "my:mem")
theorem layj_16 : True := by
  k_with "my:item" => (first | (k_here; (with_reducible show wpAny _ _ (subscriptTail _ _ (Value.ref _) (Value.int _ _)) _ _ _); (with_unfolding_all refine' item_litK (by first | is_list | exact News.isList (by assumption) (by k_mem)) (by decide) (by decide) (by rfl) ?_ (by with_unfolding_all rfl); k_whole)) | fail)
  k_with "subscriptTail" => (first | (walk_at "my:item") | fail)
  k_with "subscriptTail Name Constant ref int" => (first | (walk_at "my:item") | fail)
  k_with "ite" => (first | (k_here; k_openite; (refine ite_pos (by first | exact rfl | exact decide_eq_true rfl) ?_); walk_say "MY RFL"; (try k_fold); (try dsimp only)) | fail)
  k_with "my:mem" => (first | (first | exact List.Mem.head _ | ktr_member | (refine' List.mem_cons_of_mem _ ?_; walk_at "my:mem")) | fail)
  k_with "eval Name" => (first | (k_here; (with_reducible show wpAny _ _ (eval (Expr.Name _ _) (envOf _ _ _ _ _)) _ _ _); k_dflt (refine' ld (by with_reducible assumption) (by assumption) ?_; k_whole)) | fail)
  trivial
theorem clock_facts {wd a b c : Int} (h : 0 ≤ wd ∧ wd < 65536) (e : lawClock wd = some (a, b, c)) : (0 ≤ a ∧ a ≤ 23 ∧ 0 ≤ b ∧ b ≤ 59 ∧ 0 ≤ c ∧ c ≤ 59) ∧ a * 2048 + b * 32 + c / 2 = wd := by
  obtain ⟨b1, b2, b3, b4, b5, b6, b7⟩ := bits_time h
  simp only [lawClock] at e
  split at e
  · simp only [Option.some.injEq, Prod.mk.injEq] at e
    obtain ⟨e1, e2, e3⟩ := e
    and_intros <;> omega
  · cases e
theorem len29 : lawLen 2000 2 = 29 := by simp [lawLen]
theorem lay_C02n_1 : True := by
  k_with "call ref" => (first | (k_here; (with_reducible show wpAny _ _ (call (Value.ref 705) _ _) _ _ _); k_dflt (refine' c_clock (by walk_at "my:p") (by k_asm) (by k_asm) (by k_asm) (by k_asm) (by k_asm) (by first | exact rfl | assumption) (by walk_at "my:room") (by walk_at "my:room") ?_ ?_; all_goals k_whole); all_goals first   | (intro y9 mo9 d9 hs9 l9 t19 t29 t39 h9 tk9 F9 N9 lt9; (try k_lt lt9); (have c9 := clock_facts (by assumption) hs9); (rename (lawClock _).getD _ = _ => q1); (rw [hs9] at q1); (simp only [Option.getD_some, Prod.mk.injEq] at q1); (obtain ⟨q1, q2, q3⟩ := q1); (subst q1); (subst q2); (subst q3); (try dsimp only); (try k_fold))   | (intro hn9 h9 tk9 F9 N9; (rename (lawClock _).getD _ = _ => q1); (rw [hn9] at q1); (simp only [Option.getD_none, Prod.mk.injEq] at q1); (obtain ⟨q1, q2, q3⟩ := q1); (subst q1); (subst q2); (subst q3); (try dsimp only); (try k_fold))) | fail)
  trivial
theorem c_clocks {g₀ : Heap} {wd : Int} {tw : Tok} (hw : 0 ≤ wd ∧ wd < 65536) (B : Below A₀ base outer h₀) (F : Fr h₀ L s.heap m) (X : (KK w.params).In h₀) (N : News h₀ L s.heap news) (T : Top VW LO mean mg mb h₀) (hk : cs.kind = .function) (hd : dp + 12 < recursionLimit) (hu : un + 96 < cLine)
    (XB : (KK w.params).In base) (TB : Top VW LO mean mg mb base) (D : KtsDicts (outer.filterMap (·.frame)) h₀) (T0 : KtsTurn (outer.filterMap (·.frame)) g₀ h₀)
    (ret : ∀ h₀' h' tk', Fr h₀' L h' m → News h₀' L h' news → Below A₀ base outer h₀' → (KK w.params).In h₀' → Top VW LO mean mg mb h₀' → KtsDicts (outer.filterMap (·.frame)) h₀' → KtsTurn (outer.filterMap (·.frame)) g₀ h₀' → Q (.bool true) { s with heap := h', toks := tk' }) :
    wpAny (model PR w) (ktrTop dp un gd cn cs L a ccd cl outer) (call (.ref 726) [.int wd tw]) Q E s := by
  have e29 := len29
  walk_at "my:inS"
  k_steps
  all_goals (try (rename _ ∧ _ * 2048 + _ * 32 + _ / 2 = wd => c9; first | rw [time_word c9.1, c9.2, beq_self_eq_true] | rw [c9.2, beq_self_eq_true]))
  all_goals (exact ret _ _ _ (by k_asm) (by walk_at "my:n") (by assumption) (by assumption) (by assumption) (by assumption) (by assumption))
theorem date_valid {wd y mo d : Int} (h : 0 ≤ wd ∧ wd < 65536) (e : (lawDate wd).getD (1980, 1, 1) = (y, mo, d)) : 1980 ≤ y ∧ y ≤ 2107 ∧ 1 ≤ mo ∧ mo ≤ 12 ∧ 1 ≤ d ∧ d ≤ lawLen y mo := by
  have e1 : wd.fdiv 32 = wd / 32 := Int.fdiv_eq_ediv_of_nonneg _ (by decide)
  have e2 : (wd.fdiv 32).fdiv 16 = wd.fdiv 32 / 16 := Int.fdiv_eq_ediv_of_nonneg _ (by decide)
  unfold lawDate at e
  split at e
  · rename_i hv
    simp only [Option.getD_some, Prod.mk.injEq] at e
    obtain ⟨rfl, rfl, rfl⟩ := e
    exact ⟨by omega, by omega, hv⟩
  · simp only [Option.getD_none, Prod.mk.injEq] at e
    obtain ⟨rfl, rfl, rfl⟩ := e
    exact ⟨by decide, by decide, by decide, by decide, by decide, by simp [lawLen]⟩
theorem time_valid {wd ho mi se : Int} (h : 0 ≤ wd ∧ wd < 65536) (e : (lawClock wd).getD (0, 0, 0) = (ho, mi, se)) : 0 ≤ ho ∧ ho ≤ 23 ∧ 0 ≤ mi ∧ mi ≤ 59 ∧ 0 ≤ se ∧ se ≤ 59 := by
  obtain ⟨b1, b2, b3, b4, b5, b6, b7⟩ := bits_time h
  unfold lawClock at e
  split at e
  · simp only [Option.getD_some, Prod.mk.injEq] at e
    and_intros <;> omega
  · simp only [Option.getD_none, Prod.mk.injEq] at e
    and_intros <;> omega
theorem lay_C02o_1 : True := by
  k_with "call ref" => (first | (k_here; (with_reducible show wpAny _ _ (call (Value.ref 88) _ _) _ _ _); k_dflt (refine' c_ddate (by walk_at "my:p") (by k_asm) (by k_asm) (by k_asm) (by k_asm) (by k_asm) (by first | exact rfl | assumption) (by walk_at "my:room") (by walk_at "my:room") (by assumption) (by assumption) (by assumption) (by first | assumption | exact KtsTurn.refl) ?_; k_whole); intro y9 mo9 d9 hs9 g9 x9 dx9 u19 u29 u39 u49 u59 u69 t19 t29 t39 t49 t59 t69 h9 tk9 F9 N9 lt9 l29 B9 X9 T9 D9 K9; (have v9 := date_valid (by assumption) hs9); (try k_lt lt9); (try k_lt2 l29); (try dsimp only); (try k_fold)) | fail)
  k_with "call ref" => (first | (k_here; (with_reducible show wpAny _ _ (call (Value.ref 98) _ _) _ _ _); k_dflt (refine' c_dtime (by walk_at "my:p") (by k_asm) (by k_asm) (by k_asm) (by k_asm) (by k_asm) (by first | exact rfl | assumption) (by walk_at "my:room") (by walk_at "my:room") (by assumption) (by assumption) (by assumption) (by first | assumption | exact KtsTurn.refl) ?_; k_whole); intro y9 mo9 d9 hs9 g9 x9 dx9 u19 u29 u39 t19 t29 t39 h9 tk9 F9 N9 lt9 l29 B9 X9 T9 D9 K9; (have v9 := time_valid (by assumption) hs9); (try k_lt lt9); (try k_lt2 l29); (try dsimp only); (try k_fold)) | fail)
  trivial
noncomputable abbrev recDict (P : Params) (u1 u2 u3 u4 u5 u6 u7 u8 u9 u10 u11 u12 u13 u14 u15 u16 u17 u18 : Tok) (e8 dl : Addr) (ten cT cD aD wT wD : Int) (r1 r2 r3 r4 r5 r6 r7 r8 r9 r10 r11 r12 : Tok) : Obj :=
  dictOf [⟨PyData.keyHash P (Str.ofString "name"), .str (Str.ofString "name") u1, .ref e8⟩, ⟨PyData.keyHash P (Str.ofString "attr"), .str (Str.ofString "attr") u2, .int 32 r1⟩, ⟨PyData.keyHash P (Str.ofString "ntres"), .str (Str.ofString "ntres") u3, .int 0 r2⟩, ⟨PyData.keyHash P (Str.ofString "crttimetenth"), .str (Str.ofString "crttimetenth") u4, .int ten r3⟩, ⟨PyData.keyHash P (Str.ofString "crttime"), .str (Str.ofString "crttime") u5, .int cT r4⟩, ⟨PyData.keyHash P (Str.ofString "crtdate"), .str (Str.ofString "crtdate") u6, .int cD r5⟩, ⟨PyData.keyHash P (Str.ofString "lstaccessdate"), .str (Str.ofString "lstaccessdate") u7, .int aD r6⟩, ⟨PyData.keyHash P (Str.ofString "fstclushi"), .str (Str.ofString "fstclushi") u8, .int 0 r7⟩, ⟨PyData.keyHash P (Str.ofString "wrttime"), .str (Str.ofString "wrttime") u9, .int wT r8⟩, ⟨PyData.keyHash P (Str.ofString "wrtdate"), .str (Str.ofString "wrtdate") u10, .int wD r9⟩, ⟨PyData.keyHash P (Str.ofString "fstcluslo"), .str (Str.ofString "fstcluslo") u11, .int 0 r10⟩, ⟨PyData.keyHash P (Str.ofString "filesize"), .str (Str.ofString "filesize") u12, .int 0 r11⟩, ⟨PyData.keyHash P (Str.ofString "_lazy_load"), .str (Str.ofString "_lazy_load") u13, .bool false⟩, ⟨PyData.keyHash P (Str.ofString "_fs"), .str (Str.ofString "_fs") u14, .none⟩, ⟨PyData.keyHash P (Str.ofString "_parent"), .str (Str.ofString "_parent") u15, .none⟩, ⟨PyData.keyHash P (Str.ofString "lfn_entry"), .str (Str.ofString "lfn_entry") u16, .none⟩, ⟨PyData.keyHash P (Str.ofString "_dirs"), .str (Str.ofString "_dirs") u17, .ref dl⟩, ⟨PyData.keyHash P (Str.ofString "_encoding"), .str (Str.ofString "_encoding") u18, .str (Str.ofString "latin-1") r12⟩] 18
theorem c_cdt {g₀ : Heap} {wd wt : Int} {tw tt : Tok} (hw : 0 ≤ wd ∧ wd < 65536) (hw2 : 0 ≤ wt ∧ wt < 65536) (B : Below A₀ base outer h₀) (F : Fr h₀ L s.heap m) (X : (KK w.params).In h₀) (N : News h₀ L s.heap news) (T : Top VW LO mean mg mb h₀) (hk : cs.kind = .function) (hd : dp + 16 < recursionLimit) (hu : un + 128 < cLine)
    (XB : (KK w.params).In base) (TB : Top VW LO mean mg mb base) (D : KtsDicts (outer.filterMap (·.frame)) h₀) (T0 : KtsTurn (outer.filterMap (·.frame)) g₀ h₀)
    (ret : ∀ y mo d, (lawDate wd).getD (1980, 1, 1) = (y, mo, d) → ∀ ho mi se, (lawClock wt).getD (0, 0, 0) = (ho, mi, se) → ∀ h₀' x dx u1 u2 u3 u4 u5 u6 t1 t2 t3 t4 t5 t6 h' tk', Fr h₀' L h' m → News h₀' L h' ((x, instObj 104 dx) :: (dx, dtDict w.params u1 u2 u3 u4 u5 u6 y mo d ho mi se t1 t2 t3 t4 t5 t6) :: news) →
      (∀ p ∈ news, p.1 < dx) → dx < x → Below A₀ base outer h₀' → (KK w.params).In h₀' → Top VW LO mean mg mb h₀' → KtsDicts (outer.filterMap (·.frame)) h₀' → KtsTurn (outer.filterMap (·.frame)) g₀ h₀' → Q (.ref x) { s with heap := h', toks := tk' }) :
    wpAny (model PR w) (ktrTop dp un gd cn cs L a ccd cl outer) (call (.ref 381) [.int wd tw, .int wt tt]) Q E s := by
  walk_at "my:inS"
  k_steps
  all_goals (exact ret _ _ _ (by assumption) _ _ _ (by assumption) _ _ _ _ _ _ _ _ _ _ _ _ _ _ _ _ _ (by k_asm) (by walk_at "my:n") (by walk_at "my:lt") (by assumption) (by assumption) (by assumption) (by assumption) (by assumption) (by assumption))
theorem layj_18 : True := by
  k_with "call ref" => (first | (k_here; (with_reducible show wpAny _ _ (call (Value.ref 88) _ _) _ _ _); k_dflt (refine' c_ddate (by walk_at "my:p") (by k_asm) (by k_asm) (by k_asm) (by k_asm) (by k_asm) (by first | exact rfl | assumption) (by walk_at "my:room") (by walk_at "my:room") (by assumption) (by assumption) (by assumption) (by first | assumption | exact KtsTurn.refl) ?_; k_whole); intro y9 mo9 d9 hs9 g9 x9 dx9 u19 u29 u39 u49 u59 u69 t19 t29 t39 t49 t59 t69 h9 tk9 F9 N9 lt9 l29 B9 X9 T9 D9 K9; (have v9 := date_valid (by assumption) hs9); (try k_lt lt9); (try k_lt2 l29); (try dsimp only); (try k_fold)) | fail)
  k_with "call ref" => (first | (k_here; (with_reducible show wpAny _ _ (call (Value.ref 98) _ _) _ _ _); k_dflt (refine' c_dtime (by walk_at "my:p") (by k_asm) (by k_asm) (by k_asm) (by k_asm) (by k_asm) (by first | exact rfl | assumption) (by walk_at "my:room") (by walk_at "my:room") (by assumption) (by assumption) (by assumption) (by first | assumption | exact KtsTurn.refl) ?_; k_whole); intro y9 mo9 d9 hs9 g9 x9 dx9 u19 u29 u39 t19 t29 t39 h9 tk9 F9 N9 lt9 l29 B9 X9 T9 D9 K9; (have v9 := time_valid (by assumption) hs9); (try k_lt lt9); (try k_lt2 l29); (try dsimp only); (try k_fold)) | fail)
  k_with "call ref" => (first | (k_here; (with_reducible show wpAny _ _ (call (Value.ref 381) _ _) _ _ _); k_dflt (refine' c_cdt (by walk_at "my:p") (by walk_at "my:p") (by k_asm) (by k_asm) (by k_asm) (by k_asm) (by k_asm) (by first | exact rfl | assumption) (by walk_at "my:room") (by walk_at "my:room") (by assumption) (by assumption) (by assumption) (by first | assumption | exact KtsTurn.refl) ?_; k_whole); intro y9 mo9 d9 hs9 ho9 mi9 se9 hc9 g9 x9 dx9 u19 u29 u39 u49 u59 u69 t19 t29 t39 t49 t59 t69 h9 tk9 F9 N9 lt9 l29 B9 X9 T9 D9 K9; (try k_lt lt9); (try k_lt2 l29); (try dsimp only); (try k_fold)) | fail)
  trivial
theorem m_ctime {R : Result → Shared → Prop} {g₀ : Heap} {xr dr e8 dl : Addr} {ten cT cD aD wT wD : Int} {u1 u2 u3 u4 u5 u6 u7 u8 u9 u10 u11 u12 u13 u14 u15 u16 u17 u18 r1 r2 r3 r4 r5 r6 r7 r8 r9 r10 r11 r12 : Tok} (B : Below A₀ base outer h₀) (F : Fr h₀ L s.heap m) (X : (KK w.params).In h₀) (N : News h₀ L s.heap news) (T : Top VW LO mean mg mb h₀) (hk : cs.kind = .function) (hd : dp + 24 < recursionLimit) (hu : un + 160 < cLine) (hx : (xr, instObj 605 dr) ∈ news) (hdx : (dr, recDict w.params u1 u2 u3 u4 u5 u6 u7 u8 u9 u10 u11 u12 u13 u14 u15 u16 u17 u18 e8 dl ten cT cD aD wT wD r1 r2 r3 r4 r5 r6 r7 r8 r9 r10 r11 r12) ∈ news) (hw : 0 ≤ cD ∧ cD < 65536) (hw2 : 0 ≤ cT ∧ cT < 65536) (XB : (KK w.params).In base) (TB : Top VW LO mean mg mb base) (D : KtsDicts (outer.filterMap (·.frame)) h₀) (T0 : KtsTurn (outer.filterMap (·.frame)) g₀ h₀)
    (ret : ∀ y mo d, (lawDate cD).getD (1980, 1, 1) = (y, mo, d) → ∀ ho mi se, (lawClock cT).getD (0, 0, 0) = (ho, mi, se) → ∀ h₀' x dx u1 u2 u3 u4 u5 u6 t1 t2 t3 t4 t5 t6 h' tk', Fr h₀' L h' m → News h₀' L h' ((x, instObj 104 dx) :: (dx, dtDict w.params u1 u2 u3 u4 u5 u6 y mo d ho mi se t1 t2 t3 t4 t5 t6) :: news) →
      (∀ p ∈ news, p.1 < dx) → dx < x → Below A₀ base outer h₀' → (KK w.params).In h₀' → Top VW LO mean mg mb h₀' → KtsDicts (outer.filterMap (·.frame)) h₀' → KtsTurn (outer.filterMap (·.frame)) g₀ h₀' → R (.ok (.ret (.ref x))) { s with heap := h', toks := tk' }) :
    codeAny (model PR w) (ktrTop dp un gd cn cs L a ccd cl outer) (.call (.ref 360) ⟨[.ref xr], []⟩) R s := by
  walk_at "my:enterS"
  k_steps
  all_goals (exact ret _ _ _ (by assumption) _ _ _ (by assumption) _ _ _ _ _ _ _ _ _ _ _ _ _ _ _ _ _ (by k_asm) (by walk_at "my:n") (by walk_at "my:lt") (by assumption) (by assumption) (by assumption) (by assumption) (by assumption) (by assumption))
theorem m_mtime {R : Result → Shared → Prop} {g₀ : Heap} {xr dr e8 dl : Addr} {ten cT cD aD wT wD : Int} {u1 u2 u3 u4 u5 u6 u7 u8 u9 u10 u11 u12 u13 u14 u15 u16 u17 u18 r1 r2 r3 r4 r5 r6 r7 r8 r9 r10 r11 r12 : Tok} (B : Below A₀ base outer h₀) (F : Fr h₀ L s.heap m) (X : (KK w.params).In h₀) (N : News h₀ L s.heap news) (T : Top VW LO mean mg mb h₀) (hk : cs.kind = .function) (hd : dp + 24 < recursionLimit) (hu : un + 160 < cLine) (hx : (xr, instObj 605 dr) ∈ news) (hdx : (dr, recDict w.params u1 u2 u3 u4 u5 u6 u7 u8 u9 u10 u11 u12 u13 u14 u15 u16 u17 u18 e8 dl ten cT cD aD wT wD r1 r2 r3 r4 r5 r6 r7 r8 r9 r10 r11 r12) ∈ news) (hw : 0 ≤ wD ∧ wD < 65536) (hw2 : 0 ≤ wT ∧ wT < 65536) (XB : (KK w.params).In base) (TB : Top VW LO mean mg mb base) (D : KtsDicts (outer.filterMap (·.frame)) h₀) (T0 : KtsTurn (outer.filterMap (·.frame)) g₀ h₀)
    (ret : ∀ y mo d, (lawDate wD).getD (1980, 1, 1) = (y, mo, d) → ∀ ho mi se, (lawClock wT).getD (0, 0, 0) = (ho, mi, se) → ∀ h₀' x dx u1 u2 u3 u4 u5 u6 t1 t2 t3 t4 t5 t6 h' tk', Fr h₀' L h' m → News h₀' L h' ((x, instObj 104 dx) :: (dx, dtDict w.params u1 u2 u3 u4 u5 u6 y mo d ho mi se t1 t2 t3 t4 t5 t6) :: news) →
      (∀ p ∈ news, p.1 < dx) → dx < x → Below A₀ base outer h₀' → (KK w.params).In h₀' → Top VW LO mean mg mb h₀' → KtsDicts (outer.filterMap (·.frame)) h₀' → KtsTurn (outer.filterMap (·.frame)) g₀ h₀' → R (.ok (.ret (.ref x))) { s with heap := h', toks := tk' }) :
    codeAny (model PR w) (ktrTop dp un gd cn cs L a ccd cl outer) (.call (.ref 367) ⟨[.ref xr], []⟩) R s := by
  walk_at "my:enterS"
  k_steps
  all_goals (exact ret _ _ _ (by assumption) _ _ _ (by assumption) _ _ _ _ _ _ _ _ _ _ _ _ _ _ _ _ _ (by k_asm) (by walk_at "my:n") (by walk_at "my:lt") (by assumption) (by assumption) (by assumption) (by assumption) (by assumption) (by assumption))
theorem m_atime {R : Result → Shared → Prop} {g₀ : Heap} {xr dr e8 dl : Addr} {ten cT cD aD wT wD : Int} {u1 u2 u3 u4 u5 u6 u7 u8 u9 u10 u11 u12 u13 u14 u15 u16 u17 u18 r1 r2 r3 r4 r5 r6 r7 r8 r9 r10 r11 r12 : Tok} (B : Below A₀ base outer h₀) (F : Fr h₀ L s.heap m) (X : (KK w.params).In h₀) (N : News h₀ L s.heap news) (T : Top VW LO mean mg mb h₀) (hk : cs.kind = .function) (hd : dp + 24 < recursionLimit) (hu : un + 160 < cLine) (hx : (xr, instObj 605 dr) ∈ news) (hdx : (dr, recDict w.params u1 u2 u3 u4 u5 u6 u7 u8 u9 u10 u11 u12 u13 u14 u15 u16 u17 u18 e8 dl ten cT cD aD wT wD r1 r2 r3 r4 r5 r6 r7 r8 r9 r10 r11 r12) ∈ news) (hw : 0 ≤ aD ∧ aD < 65536) (XB : (KK w.params).In base) (TB : Top VW LO mean mg mb base) (D : KtsDicts (outer.filterMap (·.frame)) h₀) (T0 : KtsTurn (outer.filterMap (·.frame)) g₀ h₀)
    (ret : ∀ y mo d, (lawDate aD).getD (1980, 1, 1) = (y, mo, d) → ∀ h₀' x dx u1 u2 u3 u4 u5 u6 t1 t2 t3 t4 t5 t6 h' tk', Fr h₀' L h' m → News h₀' L h' ((x, instObj 104 dx) :: (dx, dtDict w.params u1 u2 u3 u4 u5 u6 y mo d 0 0 0 t1 t2 t3 t4 t5 t6) :: news) →
      (∀ p ∈ news, p.1 < dx) → dx < x → Below A₀ base outer h₀' → (KK w.params).In h₀' → Top VW LO mean mg mb h₀' → KtsDicts (outer.filterMap (·.frame)) h₀' → KtsTurn (outer.filterMap (·.frame)) g₀ h₀' → R (.ok (.ret (.ref x))) { s with heap := h', toks := tk' }) :
    codeAny (model PR w) (ktrTop dp un gd cn cs L a ccd cl outer) (.call (.ref 374) ⟨[.ref xr], []⟩) R s := by
  walk_at "my:enterS"
  k_steps
  all_goals (exact ret _ _ _ (by assumption) _ _ _ _ _ _ _ _ _ _ _ _ _ _ _ _ _ (by k_asm) (by walk_at "my:n") (by walk_at "my:lt") (by assumption) (by assumption) (by assumption) (by assumption) (by assumption) (by assumption))
theorem rec_binds {x e8 : Addr} {ten cT cD aD wT wD : Int} {a1 a2 a3 a4 a5 a6 a7 a8 a9 a10 a11 : Tok} (X : (KK w.params).In s.heap) :
    BindsTo s (fnOf (Str.ofString "__init__") (Str.ofString "FATDirectoryEntry.__init__") f16m13P f16m13B f16m13S (.ref 328) .none .none (.str (Str.ofString "pyfatfs.FATDirectoryEntry") 714) none (.ref 334) .none) ⟨[.ref x], [(Str.ofString "DIR_Name", .ref e8), (Str.ofString "DIR_Attr", .int 32 a1), (Str.ofString "DIR_NTRes", .int 0 a2), (Str.ofString "DIR_CrtTimeTenth", .int ten a3), (Str.ofString "DIR_CrtTime", .int cT a4), (Str.ofString "DIR_CrtDate", .int cD a5), (Str.ofString "DIR_LstAccessDate", .int aD a6), (Str.ofString "DIR_FstClusHI", .int 0 a7), (Str.ofString "DIR_WrtTime", .int wT a8), (Str.ofString "DIR_WrtDate", .int wD a9), (Str.ofString "DIR_FstClusLO", .int 0 a10), (Str.ofString "DIR_FileSize", .int 0 a11)]⟩
      [(Str.ofString "self", .ref x), (Str.ofString "DIR_Name", .ref e8), (Str.ofString "DIR_Attr", .int 32 a1), (Str.ofString "DIR_NTRes", .int 0 a2), (Str.ofString "DIR_CrtTimeTenth", .int ten a3), (Str.ofString "DIR_CrtTime", .int cT a4), (Str.ofString "DIR_CrtDate", .int cD a5), (Str.ofString "DIR_LstAccessDate", .int aD a6), (Str.ofString "DIR_FstClusHI", .int 0 a7), (Str.ofString "DIR_WrtTime", .int wT a8), (Str.ofString "DIR_WrtDate", .int wD a9), (Str.ofString "DIR_FstClusLO", .int 0 a10), (Str.ofString "DIR_FileSize", .int 0 a11), (Str.ofString "encoding", .str (Str.ofString "latin-1") 485), (Str.ofString "fs", .none), (Str.ofString "lazy_load", .bool false), (Str.ofString "lfn_entry", .none)] :=
  fun M A E Q hq => Looks.of_peek X (by kernel_rfl) A Q E s (fun _ _ e => e) hq
theorem lay_C02q_1 : True := by
  k_with "my:enterR" => (first | (refine' call_turning (by exact rfl) (by exact rfl) (by first | exact rfl | assumption) (by k_asm) (by k_asm) (by k_asm) (by k_asm) (by k_asm) (by assumption) (by assumption) (by assumption) (by first | assumption | exact KtsTurn.refl) (by k_is) (by k_is) (by walk_at "my:room") (by exact rec_binds (by k_in)) (by exact locs rfl) ?_ (by exact rfl) (by exact rfl) (by exact rfl) (by decide); k_whole; intro g' L' h' FG' F' N' B' X' T' D'; (try dsimp only); (try k_lift B'); (try k_fold)) | fail)
  k_with "call ref" => (first | (k_here; (with_reducible show wpAny _ _ (call (Value.ref 605) _ _) _ _ _); k_dflt (refine' call_cls (by k_asm) (by k_asm) (by k_asm) (by k_is) (by k_is) (by k_is) ?_; k_whole; intro x' d' h' F' N' l1 l2; (try k_lt l1); (try k_lt2 l2); (try k_sweep); walk_at "my:enterR")) | fail)
  trivial
theorem c_rec {g₀ : Heap} {e8 : Addr} {ten cT cD aD wT wD : Int} {a1 a2 a3 a4 a5 a6 a7 a8 a9 a10 a11 : Tok} (hv : (0 ≤ ten ∧ ten < 200) ∧ (0 ≤ cT ∧ cT < 65536) ∧ (0 ≤ cD ∧ cD < 65536) ∧ (0 ≤ aD ∧ aD < 65536) ∧ (0 ≤ wT ∧ wT < 65536) ∧ (0 ≤ wD ∧ wD < 65536)) (B : Below A₀ base outer h₀) (F : Fr h₀ L s.heap m) (X : (KK w.params).In h₀) (N : News h₀ L s.heap news) (T : Top VW LO mean mg mb h₀) (hk : cs.kind = .function) (hd : dp + 24 < recursionLimit) (hu : un + 160 < cLine)
    (XB : (KK w.params).In base) (TB : Top VW LO mean mg mb base) (D : KtsDicts (outer.filterMap (·.frame)) h₀) (T0 : KtsTurn (outer.filterMap (·.frame)) g₀ h₀)
    (ret : ∀ h₀' x dx dl u1 u2 u3 u4 u5 u6 u7 u8 u9 u10 u11 u12 u13 u14 u15 u16 u17 u18 r1 r2 r3 r4 r5 r6 r7 r8 r9 r10 r11 r12 h' tk', Fr h₀' L h' m → News h₀' L h' ((dl, W.listOf #[] 0) :: (x, instObj 605 dx) :: (dx, recDict w.params u1 u2 u3 u4 u5 u6 u7 u8 u9 u10 u11 u12 u13 u14 u15 u16 u17 u18 e8 dl ten cT cD aD wT wD r1 r2 r3 r4 r5 r6 r7 r8 r9 r10 r11 r12) :: news) →
      (∀ p ∈ news, p.1 < dx) → dx < x → x < dl → Below A₀ base outer h₀' → (KK w.params).In h₀' → Top VW LO mean mg mb h₀' → KtsDicts (outer.filterMap (·.frame)) h₀' → KtsTurn (outer.filterMap (·.frame)) g₀ h₀' → Q (.ref x) { s with heap := h', toks := tk' }) :
    wpAny (model PR w) (ktrTop dp un gd cn cs L a ccd cl outer) (call (.ref 605) [] [(Str.ofString "DIR_Name", .ref e8), (Str.ofString "DIR_Attr", .int 32 a1), (Str.ofString "DIR_NTRes", .int 0 a2), (Str.ofString "DIR_CrtTimeTenth", .int ten a3), (Str.ofString "DIR_CrtTime", .int cT a4), (Str.ofString "DIR_CrtDate", .int cD a5), (Str.ofString "DIR_LstAccessDate", .int aD a6), (Str.ofString "DIR_FstClusHI", .int 0 a7), (Str.ofString "DIR_WrtTime", .int wT a8), (Str.ofString "DIR_WrtDate", .int wD a9), (Str.ofString "DIR_FstClusLO", .int 0 a10), (Str.ofString "DIR_FileSize", .int 0 a11)]) Q E s := by
  k_steps
  all_goals (exact ret _ _ _ _ _ _ _ _ _ _ _ _ _ _ _ _ _ _ _ _ _ _ _ _ _ _ _ _ _ _ _ _ _ _ _ _  (by k_asm) (by walk_at "my:n") (by walk_at "my:lt") (by assumption) (by first | assumption | (rename _ < _ ∧ _ < _ ∧ _ => z9; exact z9.1)) (by assumption) (by assumption) (by assumption) (by assumption) (by assumption))
theorem layj_20 : True := by
  k_with "call ref" => (first | (k_here; (with_reducible show wpAny _ _ (call (Value.ref 605) _ _) _ _ _); k_dflt (refine' c_rec (by walk_at "my:p") (by k_asm) (by k_asm) (by k_asm) (by k_asm) (by k_asm) (by first | exact rfl | assumption) (by walk_at "my:room") (by walk_at "my:room") (by assumption) (by assumption) (by assumption) (by first | assumption | exact KtsTurn.refl) ?_; k_whole); intro g9 x9 dx9 dl9 u91 u92 u93 u94 u95 u96 u97 u98 u99 u910 u911 u912 u913 u914 u915 u916 u917 u918 r91 r92 r93 r94 r95 r96 r97 r98 r99 r910 r911 r912 h9 tk9 F9 N9 lt9 l29 l39 B9 X9 T9 D9 K9; (try k_lt lt9); (try k_lt2 l29); (try k_lt2 l39); (try dsimp only); (try k_fold)) | fail)
  trivial
def Keep (ns : List Str) (m m' : Str → Option Value) : Prop := ∀ z, z ∉ ns → m' z = m z
theorem Keep.of_eq {ns : List Str} {m m' : Str → Option Value} (e : m' = m) : Keep ns m m' := fun z _ => by rw [e]
theorem Keep.step {ns : List Str} {m m' : Str → Option Value} {x : Str} {v : Option Value} (k : Keep ns m m') (h : x ∈ ns) : Keep ns m (fun y => if y = x then v else m' y) := fun z hz => by
  have : z ≠ x := fun e => hz (e ▸ h)
  show (if z = x then v else m' z) = m z
  rw [if_neg this]; exact k z hz
theorem Keep.at {ns : List Str} {m m' : Str → Option Value} (k : Keep ns m m') {x : Str} {v : Option Value} (e : m x = v) (h : x ∉ ns := by decide) : m' x = v := (k x h).trans e
theorem Keep.trans {ns : List Str} {m m' m'' : Str → Option Value} (k : Keep ns m m') (k' : Keep ns m' m'') : Keep ns m m'' := fun z hz => (k' z hz).trans (k z hz)
theorem Keep.mono {ns ns' : List Str} {m m' : Str → Option Value} (k : Keep ns m m') (h : ∀ x ∈ ns, x ∈ ns') : Keep ns' m m' := fun z hz => k z fun c => hz (h z c)
noncomputable abbrev lawFor : Stmt := lit (nthSt f26B 1) _ (by conv => lhs; whnf)
noncomputable abbrev lawB : List Stmt := lit (match lawFor with | .For _ _ b _ _ => b | _ => []) _ (by conv => lhs; whnf)
theorem date_back {wd y mo d : Int} (h : 0 ≤ wd ∧ wd < 65536) (e : lawDate wd = some (y, mo, d)) : (y - 1980) * 512 + mo * 32 + d = wd ∧ (1980 ≤ y ∧ y ≤ 2107 ∧ 0 ≤ mo ∧ mo ≤ 15 ∧ 0 ≤ d ∧ d ≤ 31) := by
  have e1 : wd.fdiv 32 = wd / 32 := Int.fdiv_eq_ediv_of_nonneg _ (by decide)
  have e2 : (wd.fdiv 32).fdiv 16 = wd.fdiv 32 / 16 := Int.fdiv_eq_ediv_of_nonneg _ (by decide)
  have e3 : (wd.fdiv 32).fmod 16 = wd.fdiv 32 % 16 := Int.fmod_eq_emod_of_nonneg _ (by decide)
  have e4 : wd.fmod 32 = wd % 32 := Int.fmod_eq_emod_of_nonneg _ (by decide)
  unfold lawDate at e
  split at e
  · simp only [Option.some.injEq, Prod.mk.injEq] at e
    and_intros <;> omega
  · cases e
theorem layj_21 : True := by
  k_with "my:keeps" => (first | ((repeat (refine Keep.step ?_ (by decide))); assumption) | fail)
  k_with "my:fr" => (first | (first | k_asm | exact turn_fr (by assumption) (by k_asm)) | fail)
  k_with "my:ne" => (first | (walk_at "my:n"; done) | exact turn_news (by assumption) (by walk_at "my:n"))
  k_with "my:end" => (first | ((case f => walk_at "my:fr"); (case n => walk_at "my:ne"); (case k => walk_at "my:keeps")) | fail)
  k_with "my:endb" => (first | ((case f2 => walk_at "my:fr"); (case n2 => walk_at "my:ne"); (case k2 => walk_at "my:keeps")) | fail)
  trivial
noncomputable abbrev g2For : Stmt := lit (nthSt lawB 2) _ (by conv => lhs; whnf)
noncomputable abbrev g2B : List Stmt := lit (match g2For with | .For _ _ b _ _ => b | _ => []) _ (by conv => lhs; whnf)
theorem lay_L02b_1 : True := by
  k_with "call ref" => (first | (k_here; (with_reducible show wpAny _ _ (call (Value.ref 698) _ _) _ _ _); k_dflt (refine' c_date (by walk_at "my:p") (by k_asm) (by k_asm) (by k_asm) (by k_asm) (by k_asm) (by first | exact rfl | assumption) (by walk_at "my:room") (by walk_at "my:room") ?_ ?_; all_goals k_whole); all_goals first   | (intro y9 mo9 d9 hs9 l9 t19 t29 t39 h9 tk9 F9 N9 lt9; (try k_lt lt9); (have c9 := date_back (by assumption) hs9); (rename (lawDate _).getD _ = _ => q1); (rw [hs9] at q1); (simp only [Option.getD_some, Prod.mk.injEq] at q1); (obtain ⟨q1, q2, q3⟩ := q1); (subst q1); (subst q2); (subst q3); (try dsimp only); (try k_fold))   | (intro hn9 h9 tk9 F9 N9; (rename (lawDate _).getD _ = _ => q1); (rw [hn9] at q1); (simp only [Option.getD_none, Prod.mk.injEq] at q1); (obtain ⟨q1, q2, q3⟩ := q1); (subst q1); (subst q2); (subst q3); (try dsimp only); (try k_fold))) | fail)
  trivial
theorem g2_body {QF : Flow → Shared → Prop} {fa cd : Addr} {wd : Int} {tw : Tok} (hw : 0 ≤ wd ∧ wd < 65536) (l_word : m (Str.ofString "word") = some (.int wd tw)) (B : Below A₀ h₀ [] h₀) (F : Fr h₀ L s.heap m) (X : (KK w.params).In h₀) (N : News h₀ L s.heap news) (T : Top VW LO mean mg mb h₀) (hd : dp + 80 < recursionLimit) (hu : un + 800 < cLine)
    (ret : ∀ m' h' tk' , Keep [Str.ofString "told", Str.ofString "due"] m m' → Fr h₀ L h' m' → News h₀ L h' news → QF .next { s with heap := h', toks := tk' }) :
    wpAny (model PR w) (ktrTop dp un (some []) (Str.ofString "law") f26S L fa (.ref cd) [(Str.ofString "start", L + 1)] []) (execs g2B (envX (Str.ofString "law") f26S L fa (.ref cd) [(Str.ofString "start", L + 1)])) QF E s := by
  have e0 : fo [(Str.ofString "word", .int wd tw)] m = m := fo_cons (by assumption) fo_nil
  have k0 : Keep [Str.ofString "told", Str.ofString "due"] m (fo [(Str.ofString "word", .int wd tw)] m) := Keep.of_eq e0
  replace F := e0.symm ▸ F
  clear e0
  have d0 : KtsDicts (([] : List Env).filterMap (·.frame)) h₀ := ktsDicts_nil
  dsimp only [g2B, lit]
  k_steps
  all_goals (try k_data)
  all_goals first | (exfalso; omega) | (refine' ret _ _ _ ?k ?f ?n; walk_at "my:end")
theorem words_loop {QF : Flow → Shared → Prop} {fa cd l : Addr} {vs : List Value} {ns : List Int} {nn : Nat} (hl : (l, W.listOf vs.toArray nn) ∈ news) (hi : IntsAre vs ns) (hr : ∀ n ∈ ns, 0 ≤ n ∧ n < 65536) (B : Below A₀ h₀ [] h₀) (F : Fr h₀ L s.heap m) (X : (KK w.params).In h₀) (N : News h₀ L s.heap news) (T : Top VW LO mean mg mb h₀) (hd : dp + 80 < recursionLimit) (hu : un + 800 < cLine)
    (done : ∀ m' h' tk', Keep [Str.ofString "word", Str.ofString "told", Str.ofString "due"] m m' → Fr h₀ L h' m' → News h₀ L h' news → QF .next { s with heap := h', toks := tk' }) :
    wpAny (model PR w) (ktrTop dp un (some []) (Str.ofString "law") f26S L fa (.ref cd) [(Str.ofString "start", L + 1)] []) (pyIter (.ref l)) (fun it s₂ => LoopAtV PR w (ktrTop dp un (some []) (Str.ofString "law") f26S L fa (.ref cd) [(Str.ofString "start", L + 1)] []) h₀ (envX (Str.ofString "law") f26S L fa (.ref cd) [(Str.ofString "start", L + 1)]) (Str.ofString "word") g2B QF (fun _ _ => False) it s₂) (fun _ _ => False) s := by
  refine iter_invNL (fun _ m' nx => Keep [Str.ofString "word", Str.ofString "told", Str.ofString "due"] m m' ∧ nx = news) rfl hl hi F N ⟨Keep.of_eq rfl, rfl⟩ ?_ ?_
  · rintro i n t m₁ news₁ h tk own hn hadr hoff hmem ⟨hk, rfl⟩ F₁ N₁
    refine g2_body (hr n (List.mem_of_getElem? hn)) (if_pos rfl) B F₁ X N₁ T hd hu fun m' h' tk' k' F' N' => ?_
    refine InvEndN.intro F' N' ⟨hmem, ?_, rfl⟩ hadr (fun p hp => List.mem_append_left _ hp) (fun p hp => List.mem_append_right _ hp)
    exact (Keep.step hk (by decide)).trans (k'.mono (by decide))
  · rintro m₁ news₁ h tk _ ⟨hk, rfl⟩ F₁ N₁
    exact done m₁ h tk hk F₁ N₁
theorem range_at {n : Int} {k : Nat} : n ∈ rangeKs 0 k → 0 ≤ n ∧ n < k := by
  intro h
  unfold rangeKs at h
  obtain ⟨i, hi, rfl⟩ := List.mem_map.mp h
  have := List.mem_range.mp hi
  omega
theorem g2_loop {QF : Flow → Shared → Prop} {fa cd : Addr} {st dy p : Int} {ts td tp : Tok} {co : Obj} (hco : co.data = .cell (some (.int st ts))) (hst : 0 ≤ st ∧ st + 31 < 65536) (hce : (L + 1, co) ∈ news) (l_day : m (Str.ofString "day") = some (.int dy td)) (l_place : m (Str.ofString "place") = some (.int p tp)) (B : Below A₀ h₀ [] h₀) (F : Fr h₀ L s.heap m) (X : (KK w.params).In h₀) (N : News h₀ L s.heap news) (T : Top VW LO mean mg mb h₀) (hd : dp + 80 < recursionLimit) (hu : un + 800 < cLine)
    (ret : ∀ m' h' tk' , Keep [Str.ofString "word", Str.ofString "told", Str.ofString "due"] m m' → Fr h₀ L h' m' → News h₀ L h' news → QF .next { s with heap := h', toks := tk' }) :
    wpAny (model PR w) (ktrTop dp un (some []) (Str.ofString "law") f26S L fa (.ref cd) [(Str.ofString "start", L + 1)] []) (exec g2For (envX (Str.ofString "law") f26S L fa (.ref cd) [(Str.ofString "start", L + 1)])) QF (fun _ _ => False) s := by
  have d0 : KtsDicts (([] : List Env).filterMap (·.frame)) h₀ := ktsDicts_nil
  have e0 : fo [(Str.ofString "day", .int dy td), (Str.ofString "place", .int p tp)] m = m := fo_cons (by assumption) (fo_cons (by assumption) fo_nil)
  have k0 : Keep [Str.ofString "word", Str.ofString "told", Str.ofString "due"] m (fo [(Str.ofString "day", .int dy td), (Str.ofString "place", .int p tp)] m) := Keep.of_eq e0
  replace F := e0.symm ▸ F
  clear e0
  dsimp only [g2For, lit]
  refine' For_invVF F ?k1 ?k2 ?_
  (case k1 => exact rfl); (case k2 => exact rfl)
  k_steps
  all_goals (try k_data)
  · (rename Fr h₀ L _ _ => F1); (rename News h₀ L _ _ => N1); rename IntsAre _ _ => hI
    refine words_loop (List.Mem.head _) hI ?_ B F1 X N1 T hd hu fun m' h' tk' k' F' N' => ret m' h' tk' (k0.trans k') F' fun p hp => N' p (.tail _ hp)
    intro n hn
    obtain ⟨k, hk, rfl⟩ := List.mem_map.mp hn
    have := range_at hk
    omega
  · (rename Fr h₀ L _ _ => F1); (rename News h₀ L _ _ => N1)
    refine words_loop (List.Mem.head _) (.cons _ _ .nil) ?_ B F1 X N1 T hd hu fun m' h' tk' k' F' N' => ret m' h' tk' (k0.trans k') F' fun p hp => N' p (.tail _ hp)
    intro n hn
    rw [List.mem_singleton.mp hn]
    have e1 : dy.fmod 32 = dy % 32 := Int.fmod_eq_emod_of_nonneg _ (by decide)
    rw [e1]; omega
noncomputable abbrev b0 : Stmt := lit (nthSt lawB 0) _ (by conv => lhs; whnf)
noncomputable abbrev b1 : Stmt := lit (nthSt lawB 1) _ (by conv => lhs; whnf)
theorem ints8 {ws : List Value} {ms : List Int} (h : IntsAre ws ms) (e : ms.length = 8) : ∃ x1 x2 x3 x4 x5 x6 x7 x8 t1 t2 t3 t4 t5 t6 t7 t8, ws = [.int x1 t1, .int x2 t2, .int x3 t3, .int x4 t4, .int x5 t5, .int x6 t6, .int x7 t7, .int x8 t8] := by
  match ms, e with
  | [y1, y2, y3, y4, y5, y6, y7, y8], _ =>
    obtain ⟨t1, w1, rfl, h1⟩ := h.cons_inv
    obtain ⟨t2, w2, rfl, h2⟩ := h1.cons_inv
    obtain ⟨t3, w3, rfl, h3⟩ := h2.cons_inv
    obtain ⟨t4, w4, rfl, h4⟩ := h3.cons_inv
    obtain ⟨t5, w5, rfl, h5⟩ := h4.cons_inv
    obtain ⟨t6, w6, rfl, h6⟩ := h5.cons_inv
    obtain ⟨t7, w7, rfl, h7⟩ := h6.cons_inv
    obtain ⟨t8, w8, rfl, h8⟩ := h7.cons_inv
    obtain rfl := h8.nil_inv
    exact ⟨_, _, _, _, _, _, _, _, _, _, _, _, _, _, _, _, rfl⟩
theorem g1_unpack {QF : Flow → Shared → Prop} {fa cd : Addr} {c : Addr} {vs : List Value} {ns : List Int} {p : Int} {tp : Tok} {k : Nat} (hi : IntsAre vs ns) (hp : 0 ≤ p ∧ p ≤ 16) (hn : ns.length ≤ 24) (hc : (c, W.listOf vs.toArray k) ∈ news) (l_cells : m (Str.ofString "cells") = some (.ref c)) (l_place : m (Str.ofString "place") = some (.int p tp)) (B : Below A₀ h₀ [] h₀) (F : Fr h₀ L s.heap m) (X : (KK w.params).In h₀) (N : News h₀ L s.heap news) (T : Top VW LO mean mg mb h₀) (hd : dp + 80 < recursionLimit) (hu : un + 800 < cLine)
    (ret : ∀ m' h' tk' x1 x2 x3 x4 x5 x6 x7 x8 t1 t2 t3 t4 t5 t6 t7 t8, Keep [Str.ofString "head", Str.ofString "year", Str.ofString "month", Str.ofString "day", Str.ofString "hour", Str.ofString "minute", Str.ofString "half", Str.ofString "count"] m m' → m' (Str.ofString "head") = some (.int x1 t1) → m' (Str.ofString "year") = some (.int x2 t2) → m' (Str.ofString "month") = some (.int x3 t3) → m' (Str.ofString "day") = some (.int x4 t4) → m' (Str.ofString "hour") = some (.int x5 t5) → m' (Str.ofString "minute") = some (.int x6 t6) → m' (Str.ofString "half") = some (.int x7 t7) → m' (Str.ofString "count") = some (.int x8 t8) → Fr h₀ L h' m' → News h₀ L h' news → QF .next { s with heap := h', toks := tk' }) :
    wpAny (model PR w) (ktrTop dp un (some []) (Str.ofString "law") f26S L fa (.ref cd) [(Str.ofString "start", L + 1)] []) (exec b0 (envX (Str.ofString "law") f26S L fa (.ref cd) [(Str.ofString "start", L + 1)])) QF E s := by
  have d0 : KtsDicts (([] : List Env).filterMap (·.frame)) h₀ := ktsDicts_nil
  have e0 : fo [(Str.ofString "cells", .ref c), (Str.ofString "place", .int p tp)] m = m := fo_cons (by assumption) (fo_cons (by assumption) fo_nil)
  have k0 : Keep [Str.ofString "head", Str.ofString "year", Str.ofString "month", Str.ofString "day", Str.ofString "hour", Str.ofString "minute", Str.ofString "half", Str.ofString "count"] m (fo [(Str.ofString "cells", .ref c), (Str.ofString "place", .int p tp)] m) := Keep.of_eq e0
  replace F := e0.symm ▸ F
  clear e0
  dsimp only [b0, lit]
  k_steps
  all_goals (try k_data)
  rename IntsAre _ (List.take 8 _) => h8
  rename (List.take 8 _).length = _ => e8
  obtain ⟨x1, x2, x3, x4, x5, x6, x7, x8, t1, t2, t3, t4, t5, t6, t7, t8, rfl⟩ := ints8 h8 (by rw [e8, List.length_append]; simp)
  dsimp only
  k_steps
  all_goals (try k_data)
  all_goals (refine' ret _ _ _ x1 x2 x3 x4 x5 x6 x7 x8 t1 t2 t3 t4 t5 t6 t7 t8  ?k ?q0 ?q1 ?q2 ?q3 ?q4 ?q5 ?q6 ?q7 ?f ?n; walk_at "my:end")
  all_goals first | exact rfl | skip
theorem g1_start {QF : Flow → Shared → Prop} {fa cd : Addr} {y mo : Int} {ty tmo : Tok} {co : Obj} {v₀ : Option Value} (hco : co.data = .cell v₀) (hoff : ∀ p ∈ news, p.1 ≠ L + 1) (l_year : m (Str.ofString "year") = some (.int y ty)) (l_month : m (Str.ofString "month") = some (.int mo tmo)) (B : Below A₀ h₀ [] h₀) (F : Fr h₀ L s.heap m) (X : (KK w.params).In h₀) (N : News h₀ L s.heap ((L + 1, co) :: news)) (T : Top VW LO mean mg mb h₀) (hd : dp + 80 < recursionLimit) (hu : un + 800 < cLine)
    (ret : ∀ m' h' tk' co2 st ts, co2.data = .cell (some (.int st ts)) → st = y % 128 * 512 + mo % 16 * 32 → Keep [] m m' → Fr h₀ L h' m' → News h₀ L h' ((L + 1, co2) :: news) → QF .next { s with heap := h', toks := tk' }) :
    wpAny (model PR w) (ktrTop dp un (some []) (Str.ofString "law") f26S L fa (.ref cd) [(Str.ofString "start", L + 1)] []) (exec b1 (envX (Str.ofString "law") f26S L fa (.ref cd) [(Str.ofString "start", L + 1)])) QF E s := by
  have d0 : KtsDicts (([] : List Env).filterMap (·.frame)) h₀ := ktsDicts_nil
  have e0 : fo [(Str.ofString "year", .int y ty), (Str.ofString "month", .int mo tmo)] m = m := fo_cons (by assumption) (fo_cons (by assumption) fo_nil)
  have k0 : Keep [] m (fo [(Str.ofString "year", .int y ty), (Str.ofString "month", .int mo tmo)] m) := Keep.of_eq e0
  replace F := e0.symm ▸ F
  clear e0
  dsimp only [b1, lit]
  k_steps
  all_goals (try k_data)
  (rename Fr h₀ L _ _ => F1); (rename News h₀ L _ _ => N1)
  refine storeX_C F1 N1 rfl (UpdF.head hoff) hco (fun h' o' F2 N2 d2 => ?_) rfl rfl
  exact ret _ h' _ o' _ _ d2 (by rw [Int.fmod_eq_emod_of_nonneg _ (by decide), Int.fmod_eq_emod_of_nonneg _ (by decide)]) k0 F2 N2
noncomputable abbrev b3 : Stmt := lit (nthSt lawB 3) _ (by conv => lhs; whnf)
noncomputable abbrev b4 : Stmt := lit (nthSt lawB 4) _ (by conv => lhs; whnf)
noncomputable abbrev b5 : Stmt := lit (nthSt lawB 5) _ (by conv => lhs; whnf)
noncomputable abbrev b5B : List Stmt := lit (match b5 with | .For _ _ b _ _ => b | _ => []) _ (by conv => lhs; whnf)
theorem fmods (x : Int) : x.fmod 32 = x % 32 ∧ x.fmod 64 = x % 64 ∧ x.fmod 2048 = x % 2048 := ⟨Int.fmod_eq_emod_of_nonneg _ (by decide), Int.fmod_eq_emod_of_nonneg _ (by decide), Int.fmod_eq_emod_of_nonneg _ (by decide)⟩
theorem lay_L02e_1 : True := by
  k_with "call ref" => (first | (k_here; (with_reducible show wpAny _ _ (call (Value.ref 726) _ _) _ _ _); k_dflt (refine' c_clocks (by walk_at "my:p") (by k_asm) (by k_asm) (by k_asm) (by k_asm) (by k_asm) (by first | exact rfl | assumption) (by walk_at "my:room") (by walk_at "my:room") (by assumption) (by assumption) (by assumption) (by first | assumption | exact KtsTurn.refl) ?_; k_whole); intro g9 h9 tk9 F9 N9 B9 X9 T9 D9 K9; (try dsimp only); (try k_fold)) | fail)
  trivial
theorem g3_clock {QF : Flow → Shared → Prop} {fa cd : Addr} {ho mi ha : Int} {tho tmi tha : Tok}  (l_hour : m (Str.ofString "hour") = some (.int ho tho)) (l_minute : m (Str.ofString "minute") = some (.int mi tmi)) (l_half : m (Str.ofString "half") = some (.int ha tha)) (B : Below A₀ h₀ [] h₀) (F : Fr h₀ L s.heap m) (X : (KK w.params).In h₀) (N : News h₀ L s.heap news) (T : Top VW LO mean mg mb h₀) (hd : dp + 80 < recursionLimit) (hu : un + 800 < cLine)
    (ret : ∀ m' h' tk' ck tck, ck = ho % 32 * 2048 + mi % 64 * 32 + ha % 32 → Keep [Str.ofString "clock"] m m' → m' (Str.ofString "clock") = some (.int ck tck) → Fr h₀ L h' m' → News h₀ L h' news → QF .next { s with heap := h', toks := tk' }) :
    wpAny (model PR w) (ktrTop dp un (some []) (Str.ofString "law") f26S L fa (.ref cd) [(Str.ofString "start", L + 1)] []) (exec b3 (envX (Str.ofString "law") f26S L fa (.ref cd) [(Str.ofString "start", L + 1)])) QF E s := by
  have d0 : KtsDicts (([] : List Env).filterMap (·.frame)) h₀ := ktsDicts_nil
  have e0 : fo [(Str.ofString "hour", .int ho tho), (Str.ofString "minute", .int mi tmi), (Str.ofString "half", .int ha tha)] m = m := fo_cons (by assumption) (fo_cons (by assumption) (fo_cons (by assumption) fo_nil))
  have k0 : Keep [Str.ofString "clock"] m (fo [(Str.ofString "hour", .int ho tho), (Str.ofString "minute", .int mi tmi), (Str.ofString "half", .int ha tha)] m) := Keep.of_eq e0
  replace F := e0.symm ▸ F
  clear e0
  dsimp only [b3, lit]
  k_steps
  all_goals (try k_data)
  all_goals (refine' ret _ _ _ _ _ ?g0 ?k ?q0 ?f ?n; walk_at "my:end"; (case q0 => exact rfl); (case g0 => rw [(fmods ho).1, (fmods mi).2.1, (fmods ha).1]))
theorem g3_around {QF : Flow → Shared → Prop} {fa cd : Addr} {ho ha ck p : Int} {tho tha tck tp : Tok} (hck : 0 ≤ ck ∧ ck < 65536 ∧ ck % 32 = ha % 32) (l_hour : m (Str.ofString "hour") = some (.int ho tho)) (l_half : m (Str.ofString "half") = some (.int ha tha)) (l_clock : m (Str.ofString "clock") = some (.int ck tck)) (l_place : m (Str.ofString "place") = some (.int p tp)) (B : Below A₀ h₀ [] h₀) (F : Fr h₀ L s.heap m) (X : (KK w.params).In h₀) (N : News h₀ L s.heap news) (T : Top VW LO mean mg mb h₀) (hd : dp + 80 < recursionLimit) (hu : un + 800 < cLine)
    (ret : ∀ m' h' tk' al ws ks, IntsAre ws ks → (∀ k ∈ ks, 0 ≤ k ∧ k < 65536) → ks.length ≤ 6 → Keep [Str.ofString "around"] m m' → m' (Str.ofString "around") = some (.ref al) → Fr h₀ L h' m' → News h₀ L h' ((al, W.listOf ws.toArray 0) :: news) → QF .next { s with heap := h', toks := tk' }) :
    wpAny (model PR w) (ktrTop dp un (some []) (Str.ofString "law") f26S L fa (.ref cd) [(Str.ofString "start", L + 1)] []) (exec b4 (envX (Str.ofString "law") f26S L fa (.ref cd) [(Str.ofString "start", L + 1)])) QF E s := by
  have d0 : KtsDicts (([] : List Env).filterMap (·.frame)) h₀ := ktsDicts_nil
  have e0 : fo [(Str.ofString "hour", .int ho tho), (Str.ofString "half", .int ha tha), (Str.ofString "clock", .int ck tck), (Str.ofString "place", .int p tp)] m = m := fo_cons (by assumption) (fo_cons (by assumption) (fo_cons (by assumption) (fo_cons (by assumption) fo_nil)))
  have k0 : Keep [Str.ofString "around"] m (fo [(Str.ofString "hour", .int ho tho), (Str.ofString "half", .int ha tha), (Str.ofString "clock", .int ck tck), (Str.ofString "place", .int p tp)] m) := Keep.of_eq e0
  replace F := e0.symm ▸ F
  clear e0
  obtain ⟨o1, _, _⟩ := fmods ho
  obtain ⟨o2, _, _⟩ := fmods ha
  obtain ⟨_, _, o3⟩ := fmods ck
  dsimp only [b4, lit]
  k_steps
  all_goals (try k_data)
  · refine' ret _ _ _ _ [] [] .nil (fun k hk => nomatch hk) (by decide) ?k ?q ?f ?n
    walk_at "my:end"
    exact rfl
  · refine' ret _ _ _ _ [_, _, _, _, _, _] [_, _, _, _, _, _] (.cons _ _ (.cons _ _ (.cons _ _ (.cons _ _ (.cons _ _ (.cons _ _ .nil)))))) ?g (by simp) ?k2 ?q2 ?f2 ?n2
    walk_at "my:endb"
    (case q2 => exact rfl)
    (case g => intro k hk; simp only [List.mem_cons, List.not_mem_nil, or_false] at hk; rcases hk with rfl | rfl | rfl | rfl | rfl | rfl <;> and_intros <;> omega)
theorem g3_body {QF : Flow → Shared → Prop} {fa cd : Addr} {wd : Int} {tw : Tok} (hw : 0 ≤ wd ∧ wd < 65536) (l_word : m (Str.ofString "word") = some (.int wd tw)) (B : Below A₀ h₀ [] h₀) (F : Fr h₀ L s.heap m) (X : (KK w.params).In h₀) (N : News h₀ L s.heap news) (T : Top VW LO mean mg mb h₀) (hd : dp + 80 < recursionLimit) (hu : un + 800 < cLine)
    (ret : ∀ m' h' tk' , Keep [] m m' → Fr h₀ L h' m' → News h₀ L h' news → QF .next { s with heap := h', toks := tk' }) :
    wpAny (model PR w) (ktrTop dp un (some []) (Str.ofString "law") f26S L fa (.ref cd) [(Str.ofString "start", L + 1)] []) (execs b5B (envX (Str.ofString "law") f26S L fa (.ref cd) [(Str.ofString "start", L + 1)])) QF E s := by
  have d0 : KtsDicts (([] : List Env).filterMap (·.frame)) h₀ := ktsDicts_nil
  have e0 : fo [(Str.ofString "word", .int wd tw)] m = m := fo_cons (by assumption) fo_nil
  have k0 : Keep [] m (fo [(Str.ofString "word", .int wd tw)] m) := Keep.of_eq e0
  replace F := e0.symm ▸ F
  clear e0
  dsimp only [b5B, lit]
  k_steps
  all_goals (try k_data)
  all_goals (refine' ret _ _ _   ?k  ?f ?n; walk_at "my:end")
theorem clocks_loop {QF : Flow → Shared → Prop} {fa cd l : Addr} {vs : List Value} {ns : List Int} {nn : Nat} (hl : (l, W.listOf vs.toArray nn) ∈ news) (hi : IntsAre vs ns) (hr : ∀ n ∈ ns, 0 ≤ n ∧ n < 65536) (B : Below A₀ h₀ [] h₀) (F : Fr h₀ L s.heap m) (X : (KK w.params).In h₀) (N : News h₀ L s.heap news) (T : Top VW LO mean mg mb h₀) (hd : dp + 80 < recursionLimit) (hu : un + 800 < cLine)
    (done : ∀ m' h' tk', Keep [Str.ofString "word"] m m' → Fr h₀ L h' m' → News h₀ L h' news → QF .next { s with heap := h', toks := tk' }) :
    wpAny (model PR w) (ktrTop dp un (some []) (Str.ofString "law") f26S L fa (.ref cd) [(Str.ofString "start", L + 1)] []) (pyIter (.ref l)) (fun it s₂ => LoopAtV PR w (ktrTop dp un (some []) (Str.ofString "law") f26S L fa (.ref cd) [(Str.ofString "start", L + 1)] []) h₀ (envX (Str.ofString "law") f26S L fa (.ref cd) [(Str.ofString "start", L + 1)]) (Str.ofString "word") b5B QF (fun _ _ => False) it s₂) (fun _ _ => False) s := by
  refine iter_invNL (fun _ m' nx => Keep [Str.ofString "word"] m m' ∧ nx = news) rfl hl hi F N ⟨Keep.of_eq rfl, rfl⟩ ?_ ?_
  · rintro i n t m₁ news₁ h tk own hn hadr hoff hmem ⟨hk, rfl⟩ F₁ N₁
    refine g3_body (hr n (List.mem_of_getElem? hn)) (if_pos rfl) B F₁ X N₁ T hd hu fun m' h' tk' k' F' N' => ?_
    refine InvEndN.intro F' N' ⟨hmem, ?_, rfl⟩ hadr (fun p hp => List.mem_append_left _ hp) (fun p hp => List.mem_append_right _ hp)
    exact (Keep.step hk (by decide)).trans (k'.mono (by decide))
  · rintro m₁ news₁ h tk _ ⟨hk, rfl⟩ F₁ N₁
    exact done m₁ h tk hk F₁ N₁
theorem g3_loop {QF : Flow → Shared → Prop} {fa cd : Addr} {ck : Int} {tck : Tok} {al : Addr} {ws : List Value} {ks : List Int} {k : Nat} (hck : 0 ≤ ck ∧ ck < 65536) (hi : IntsAre ws ks) (hr : ∀ k ∈ ks, 0 ≤ k ∧ k < 65536) (hz : ks.length ≤ 6) (hal : (al, W.listOf ws.toArray k) ∈ news) (l_clock : m (Str.ofString "clock") = some (.int ck tck)) (l_around : m (Str.ofString "around") = some (.ref al)) (B : Below A₀ h₀ [] h₀) (F : Fr h₀ L s.heap m) (X : (KK w.params).In h₀) (N : News h₀ L s.heap news) (T : Top VW LO mean mg mb h₀) (hd : dp + 80 < recursionLimit) (hu : un + 800 < cLine)
    (ret : ∀ m' h' tk' , Keep [Str.ofString "word"] m m' → Fr h₀ L h' m' → News h₀ L h' news → QF .next { s with heap := h', toks := tk' }) :
    wpAny (model PR w) (ktrTop dp un (some []) (Str.ofString "law") f26S L fa (.ref cd) [(Str.ofString "start", L + 1)] []) (exec b5 (envX (Str.ofString "law") f26S L fa (.ref cd) [(Str.ofString "start", L + 1)])) QF (fun _ _ => False) s := by
  have d0 : KtsDicts (([] : List Env).filterMap (·.frame)) h₀ := ktsDicts_nil
  have e0 : fo [(Str.ofString "clock", .int ck tck), (Str.ofString "around", .ref al)] m = m := fo_cons (by assumption) (fo_cons (by assumption) fo_nil)
  have k0 : Keep [Str.ofString "word"] m (fo [(Str.ofString "clock", .int ck tck), (Str.ofString "around", .ref al)] m) := Keep.of_eq e0
  replace F := e0.symm ▸ F
  clear e0
  dsimp only [b5, lit]
  refine' For_invVF F ?k1 ?k2 ?_
  (case k1 => exact rfl); (case k2 => exact rfl)
  k_steps
  all_goals (try k_data)
  (rename Fr h₀ L _ _ => F1); (rename News h₀ L _ _ => N1); rename IntsAre _ (_ ++ _) => hI
  refine clocks_loop (List.Mem.head _) hI ?_ B F1 X N1 T hd hu fun m' h' tk' k' F' N' => ret m' h' tk' (k0.trans k') F' fun p hp => N' p (.tail _ (.tail _ hp))
  intro n hn
  rcases List.mem_append.mp hn with hn | hn
  · rw [List.mem_singleton.mp hn]; exact hck
  · exact hr n hn
noncomputable abbrev b6 : Stmt := lit (nthSt lawB 6) _ (by conv => lhs; whnf)
noncomputable abbrev b7 : Stmt := lit (nthSt lawB 7) _ (by conv => lhs; whnf)
noncomputable abbrev b8 : Stmt := lit (nthSt lawB 8) _ (by conv => lhs; whnf)
noncomputable abbrev b9 : Stmt := lit (nthSt lawB 9) _ (by conv => lhs; whnf)
noncomputable abbrev b10 : Stmt := lit (nthSt lawB 10) _ (by conv => lhs; whnf)
noncomputable abbrev b11 : Stmt := lit (nthSt lawB 11) _ (by conv => lhs; whnf)
theorem lawLen_range (y mo : Int) : 28 ≤ lawLen y mo ∧ lawLen y mo ≤ 31 := by
  unfold lawLen
  (repeat' split) <;> omega
theorem fmods2 (x : Int) : x.fmod 32 = x % 32 ∧ x.fmod 128 = x % 128 ∧ x.fmod 12 = x % 12 ∧ x.fmod 24 = x % 24 ∧ x.fmod 60 = x % 60 ∧ x.fmod 46751 = x % 46751 := ⟨Int.fmod_eq_emod_of_nonneg _ (by decide), Int.fmod_eq_emod_of_nonneg _ (by decide), Int.fmod_eq_emod_of_nonneg _ (by decide), Int.fmod_eq_emod_of_nonneg _ (by decide), Int.fmod_eq_emod_of_nonneg _ (by decide), Int.fmod_eq_emod_of_nonneg _ (by decide)⟩
theorem fmod_len (x y mo : Int) : 0 ≤ x.fmod (lawLen y mo) ∧ x.fmod (lawLen y mo) < lawLen y mo := by
  have := lawLen_range y mo
  rw [Int.fmod_eq_emod_of_nonneg _ (by omega)]
  exact ⟨Int.emod_nonneg _ (by omega), Int.emod_lt_of_pos _ (by omega)⟩
theorem g4_word {QF : Flow → Shared → Prop} {fa cd : Addr} {st dy : Int} {ts td : Tok} {co : Obj} (hco : co.data = .cell (some (.int st ts))) (hce : (L + 1, co) ∈ news) (l_day : m (Str.ofString "day") = some (.int dy td)) (B : Below A₀ h₀ [] h₀) (F : Fr h₀ L s.heap m) (X : (KK w.params).In h₀) (N : News h₀ L s.heap news) (T : Top VW LO mean mg mb h₀) (hd : dp + 80 < recursionLimit) (hu : un + 800 < cLine)
    (ret : ∀ m' h' tk' wd tw, wd = st + dy % 32 → Keep [Str.ofString "word"] m m' → m' (Str.ofString "word") = some (.int wd tw) → Fr h₀ L h' m' → News h₀ L h' news → QF .next { s with heap := h', toks := tk' }) :
    wpAny (model PR w) (ktrTop dp un (some []) (Str.ofString "law") f26S L fa (.ref cd) [(Str.ofString "start", L + 1)] []) (exec b6 (envX (Str.ofString "law") f26S L fa (.ref cd) [(Str.ofString "start", L + 1)])) QF E s := by
  have d0 : KtsDicts (([] : List Env).filterMap (·.frame)) h₀ := ktsDicts_nil
  have e0 : fo [(Str.ofString "day", .int dy td)] m = m := fo_cons (by assumption) fo_nil
  have k0 : Keep [Str.ofString "word"] m (fo [(Str.ofString "day", .int dy td)] m) := Keep.of_eq e0
  replace F := e0.symm ▸ F
  clear e0
  dsimp only [b6, lit]
  k_steps
  all_goals (try k_data)
  all_goals (refine' ret _ _ _ _ _ ?g0 ?k ?q0 ?f ?n; walk_at "my:end"; (case q0 => exact rfl); (case g0 => rw [(fmods2 dy).1]))
theorem g4_years {QF : Flow → Shared → Prop} {fa cd : Addr} {y mo : Int} {ty tmo : Tok}  (l_year : m (Str.ofString "year") = some (.int y ty)) (l_month : m (Str.ofString "month") = some (.int mo tmo)) (B : Below A₀ h₀ [] h₀) (F : Fr h₀ L s.heap m) (X : (KK w.params).In h₀) (N : News h₀ L s.heap news) (T : Top VW LO mean mg mb h₀) (hd : dp + 80 < recursionLimit) (hu : un + 800 < cLine)
    (ret : ∀ m' h' tk' ys ms t1 t2, ys = 1980 + y % 128 → ms = 1 + mo % 12 → Keep [Str.ofString "years", Str.ofString "months"] m m' → m' (Str.ofString "years") = some (.int ys t1) → m' (Str.ofString "months") = some (.int ms t2) → Fr h₀ L h' m' → News h₀ L h' news → QF .next { s with heap := h', toks := tk' }) :
    wpAny (model PR w) (ktrTop dp un (some []) (Str.ofString "law") f26S L fa (.ref cd) [(Str.ofString "start", L + 1)] []) (exec b7 (envX (Str.ofString "law") f26S L fa (.ref cd) [(Str.ofString "start", L + 1)])) QF E s := by
  have d0 : KtsDicts (([] : List Env).filterMap (·.frame)) h₀ := ktsDicts_nil
  have e0 : fo [(Str.ofString "year", .int y ty), (Str.ofString "month", .int mo tmo)] m = m := fo_cons (by assumption) (fo_cons (by assumption) fo_nil)
  have k0 : Keep [Str.ofString "years", Str.ofString "months"] m (fo [(Str.ofString "year", .int y ty), (Str.ofString "month", .int mo tmo)] m) := Keep.of_eq e0
  replace F := e0.symm ▸ F
  clear e0
  dsimp only [b7, lit]
  k_steps
  all_goals (try k_data)
  all_goals (refine' ret _ _ _ _ _ _ _ ?g0 ?g1 ?k ?q0 ?q1 ?f ?n; walk_at "my:end"; (case q0 => exact rfl); (case q1 => exact rfl); (case g0 => rw [(fmods2 y).2.1]); (case g1 => rw [(fmods2 mo).2.2.1]))
theorem g4_fields {QF : Flow → Shared → Prop} {fa cd : Addr} {ys ms dy ho mi ha : Int} {t1 t2 td tho tmi tha : Tok}  (l_years : m (Str.ofString "years") = some (.int ys t1)) (l_months : m (Str.ofString "months") = some (.int ms t2)) (l_day : m (Str.ofString "day") = some (.int dy td)) (l_hour : m (Str.ofString "hour") = some (.int ho tho)) (l_minute : m (Str.ofString "minute") = some (.int mi tmi)) (l_half : m (Str.ofString "half") = some (.int ha tha)) (B : Below A₀ h₀ [] h₀) (F : Fr h₀ L s.heap m) (X : (KK w.params).In h₀) (N : News h₀ L s.heap news) (T : Top VW LO mean mg mb h₀) (hd : dp + 80 < recursionLimit) (hu : un + 800 < cLine)
    (ret : ∀ m' h' tk' fl dd hh mm ss u1 u2 u3 u4 u5 u6, ((1 ≤ dd ∧ dd ≤ lawLen ys ms) ∧ 0 ≤ hh ∧ hh ≤ 23 ∧ 0 ≤ mm ∧ mm ≤ 59 ∧ 0 ≤ ss ∧ ss ≤ 59) → Keep [Str.ofString "fields"] m m' → m' (Str.ofString "fields") = some (.ref fl) → Fr h₀ L h' m' → News h₀ L h' ((fl, W.listOf #[.int ys u1, .int ms u2, .int dd u3, .int hh u4, .int mm u5, .int ss u6] 0) :: news) → QF .next { s with heap := h', toks := tk' }) :
    wpAny (model PR w) (ktrTop dp un (some []) (Str.ofString "law") f26S L fa (.ref cd) [(Str.ofString "start", L + 1)] []) (exec b8 (envX (Str.ofString "law") f26S L fa (.ref cd) [(Str.ofString "start", L + 1)])) QF E s := by
  have d0 : KtsDicts (([] : List Env).filterMap (·.frame)) h₀ := ktsDicts_nil
  have e0 : fo [(Str.ofString "years", .int ys t1), (Str.ofString "months", .int ms t2), (Str.ofString "day", .int dy td), (Str.ofString "hour", .int ho tho), (Str.ofString "minute", .int mi tmi), (Str.ofString "half", .int ha tha)] m = m := fo_cons (by assumption) (fo_cons (by assumption) (fo_cons (by assumption) (fo_cons (by assumption) (fo_cons (by assumption) (fo_cons (by assumption) fo_nil)))))
  have k0 : Keep [Str.ofString "fields"] m (fo [(Str.ofString "years", .int ys t1), (Str.ofString "months", .int ms t2), (Str.ofString "day", .int dy td), (Str.ofString "hour", .int ho tho), (Str.ofString "minute", .int mi tmi), (Str.ofString "half", .int ha tha)] m) := Keep.of_eq e0
  replace F := e0.symm ▸ F
  clear e0
  have z1 := lawLen_range ys ms
  have z2 := fmod_len dy ys ms
  have z3 := fmods2 ho
  have z4 := fmods2 mi
  have z5 := fmods2 ha
  dsimp only [b8, lit]
  k_steps
  all_goals (try k_data)
  all_goals (refine' ret _ _ _ _ _ _ _ _ _ _ _ _ _ _ ?g0 ?k ?q0 ?f ?n; walk_at "my:end"; (case q0 => exact rfl); (case g0 => and_intros <;> omega))
noncomputable abbrev b13 : Stmt := lit (nthSt lawB 13) _ (by conv => lhs; whnf)
theorem g8_record {QF : Flow → Shared → Prop} {fa cd : Addr} {xs dx e8 sl : Addr} {hd8 ck wd ys ms dd hh mm ss sy sm sd : Int} {th tck tw k1 k2 k3 k4 k5 k6 u1 u2 u3 u4 u5 u6 t1 t2 t3 : Tok} (hv : (1980 ≤ ys ∧ ys ≤ 2107 ∧ 1 ≤ ms ∧ ms ≤ 12 ∧ 1 ≤ dd ∧ dd ≤ lawLen ys ms) ∧ 0 ≤ hh ∧ hh ≤ 23 ∧ 0 ≤ mm ∧ mm ≤ 59 ∧ 0 ≤ ss ∧ ss ≤ 59) (hs : 1980 ≤ sy ∧ sy ≤ 2107 ∧ 1 ≤ sm ∧ sm ≤ 12 ∧ 1 ≤ sd ∧ sd ≤ lawLen sy sm) (hck : 0 ≤ ck ∧ ck < 65536) (hwd : 0 ≤ wd ∧ wd < 65536) (hst : (xs, instObj 104 dx) ∈ news) (hdx : (dx, dtDict w.params k1 k2 k3 k4 k5 k6 ys ms dd hh mm ss u1 u2 u3 u4 u5 u6) ∈ news) (hsl : (sl, W.listOf #[.int sy t1, .int sm t2, .int sd t3] 0) ∈ news) (l_eight : m (Str.ofString "eight") = some (.ref e8)) (l_head : m (Str.ofString "head") = some (.int hd8 th)) (l_clock : m (Str.ofString "clock") = some (.int ck tck)) (l_word : m (Str.ofString "word") = some (.int wd tw)) (l_stamp : m (Str.ofString "stamp") = some (.ref xs)) (l_seen : m (Str.ofString "seen") = some (.ref sl)) (B : Below A₀ h₀ [] h₀) (F : Fr h₀ L s.heap m) (X : (KK w.params).In h₀) (N : News h₀ L s.heap news) (T : Top VW LO mean mg mb h₀) (hd : dp + 80 < recursionLimit) (hu : un + 800 < cLine)
    (ret : ∀ m' h' tk' xr dr dl w1 w2 w3 w4 w5 w6 w7 w8 w9 w10 w11 w12 w13 w14 w15 w16 w17 w18 r1 r2 r3 r4 r5 r6 r7 r8 r9 r10 r11 r12, Keep [Str.ofString "record"] m m' → m' (Str.ofString "record") = some (.ref xr) → Fr h₀ L h' m' → News h₀ L h' ((xr, instObj 605 dr) :: (dr, recDict w.params w1 w2 w3 w4 w5 w6 w7 w8 w9 w10 w11 w12 w13 w14 w15 w16 w17 w18 e8 dl (hd8.fmod 200) ck wd ((sy - 1980) * 512 + sm * 32 + sd) (hh * 2048 + mm * 32 + ss / 2) ((ys - 1980) * 512 + ms * 32 + dd) r1 r2 r3 r4 r5 r6 r7 r8 r9 r10 r11 r12) :: news) → QF .next { s with heap := h', toks := tk' }) :
    wpAny (model PR w) (ktrTop dp un (some []) (Str.ofString "law") f26S L fa (.ref cd) [(Str.ofString "start", L + 1)] []) (exec b13 (envX (Str.ofString "law") f26S L fa (.ref cd) [(Str.ofString "start", L + 1)])) QF E s := by
  have d0 : KtsDicts (([] : List Env).filterMap (·.frame)) h₀ := ktsDicts_nil
  have e0 : fo [(Str.ofString "eight", .ref e8), (Str.ofString "head", .int hd8 th), (Str.ofString "clock", .int ck tck), (Str.ofString "word", .int wd tw), (Str.ofString "stamp", .ref xs), (Str.ofString "seen", .ref sl)] m = m := fo_cons (by assumption) (fo_cons (by assumption) (fo_cons (by assumption) (fo_cons (by assumption) (fo_cons (by assumption) (fo_cons (by assumption) fo_nil)))))
  have k0 : Keep [Str.ofString "record"] m (fo [(Str.ofString "eight", .ref e8), (Str.ofString "head", .int hd8 th), (Str.ofString "clock", .int ck tck), (Str.ofString "word", .int wd tw), (Str.ofString "stamp", .ref xs), (Str.ofString "seen", .ref sl)] m) := Keep.of_eq e0
  replace F := e0.symm ▸ F
  clear e0
  have z1 := lawLen_range ys ms
  have z2 := lawLen_range sy sm
  have z3 : hd8.fmod 200 = hd8 % 200 := Int.fmod_eq_emod_of_nonneg _ (by decide)
  dsimp only [b13, lit]
  k_steps
  all_goals (try k_data)
  all_goals (refine' ret _ _ _ _ _ _ _ _ _ _ _ _ _ _ _ _ _ _ _ _ _ _ _ _ _ _ _ _ _ _ _ _ _ _ _ _  ?k ?q0 ?f ?n; walk_at "my:end"; (case q0 => exact rfl))
noncomputable abbrev b14 : Stmt := lit (nthSt lawB 14) _ (by conv => lhs; whnf)
noncomputable abbrev b15 : Stmt := lit (nthSt lawB 15) _ (by conv => lhs; whnf)
noncomputable abbrev b16 : Stmt := lit (nthSt lawB 16) _ (by conv => lhs; whnf)
noncomputable abbrev b17 : Stmt := lit (nthSt lawB 17) _ (by conv => lhs; whnf)
theorem lay_L02i_1 : True := by
  k_with "call ref" => (first | (k_here; (with_reducible show wpAny _ _ (call (Value.ref 698) _ _) _ _ _); k_dflt (refine' c_date (by walk_at "my:p") (by k_asm) (by k_asm) (by k_asm) (by k_asm) (by k_asm) (by first | exact rfl | assumption) (by walk_at "my:room") (by walk_at "my:room") ?_ ?_; all_goals k_whole); all_goals first   | (intro y9 mo9 d9; (rw [(by assumption : lawDate _ = _)]); intro hs9; first | (cases hs9; done) | ((simp only [Option.some.injEq, Prod.mk.injEq] at hs9); (obtain ⟨q1, q2, q3⟩ := hs9); (subst q1); (subst q2); (subst q3); intro l9 t19 t29 t39 h9 tk9 F9 N9 lt9; (try k_lt lt9); (try dsimp only); (try k_fold)))   | ((rw [(by assumption : lawDate _ = _)]); intro hn9; first | (cases hn9; done) | (intro h9 tk9 F9 N9; (try dsimp only); (try k_fold)))) | fail)
  k_with "call ref" => (first | (k_here; (with_reducible show wpAny _ _ (call (Value.ref 705) _ _) _ _ _); k_dflt (refine' c_clock (by walk_at "my:p") (by k_asm) (by k_asm) (by k_asm) (by k_asm) (by k_asm) (by first | exact rfl | assumption) (by walk_at "my:room") (by walk_at "my:room") ?_ ?_; all_goals k_whole); all_goals first   | (intro y9 mo9 d9; (rw [(by assumption : lawClock _ = _)]); intro hs9; first | (cases hs9; done) | ((simp only [Option.some.injEq, Prod.mk.injEq] at hs9); (obtain ⟨q1, q2, q3⟩ := hs9); (subst q1); (subst q2); (subst q3); intro l9 t19 t29 t39 h9 tk9 F9 N9 lt9; (try k_lt lt9); (try dsimp only); (try k_fold)))   | ((rw [(by assumption : lawClock _ = _)]); intro hn9; first | (cases hn9; done) | (intro h9 tk9 F9 N9; (try dsimp only); (try k_fold)))) | fail)
  trivial
theorem g9_due {QF : Flow → Shared → Prop} {fa cd : Addr} {wd : Int} {tw : Tok} (hwd : 0 ≤ wd ∧ wd < 65536) (l_word : m (Str.ofString "word") = some (.int wd tw)) (B : Below A₀ h₀ [] h₀) (F : Fr h₀ L s.heap m) (X : (KK w.params).In h₀) (N : News h₀ L s.heap news) (T : Top VW LO mean mg mb h₀) (hd : dp + 80 < recursionLimit) (hu : un + 800 < cLine)
    (ret : ∀ m' h' tk' y mo d d1 t1 t2 t3, (lawDate wd).getD (1980, 1, 1) = (y, mo, d) → Keep [Str.ofString "due"] m m' → m' (Str.ofString "due") = some (.ref d1) → Fr h₀ L h' m' → News h₀ L h' ((d1, W.listOf #[.int y t1, .int mo t2, .int d t3] 0) :: news) → QF .next { s with heap := h', toks := tk' }) :
    wpAny (model PR w) (ktrTop dp un (some []) (Str.ofString "law") f26S L fa (.ref cd) [(Str.ofString "start", L + 1)] []) (exec b14 (envX (Str.ofString "law") f26S L fa (.ref cd) [(Str.ofString "start", L + 1)])) QF E s := by
  have d0 : KtsDicts (([] : List Env).filterMap (·.frame)) h₀ := ktsDicts_nil
  have e0 : fo [(Str.ofString "word", .int wd tw)] m = m := fo_cons (by assumption) fo_nil
  have k0 : Keep [Str.ofString "due"] m (fo [(Str.ofString "word", .int wd tw)] m) := Keep.of_eq e0
  replace F := e0.symm ▸ F
  clear e0
  dsimp only [b14, lit]
  cases hq : lawDate wd with
  | none =>
    k_steps
    all_goals (try k_data)
    all_goals (refine' ret _ _ _ _ _ _ _ _ _ _ ?g0 ?k ?q0 ?f ?n; walk_at "my:end"; (case q0 => exact rfl); (case g0 => rw [hq]; exact rfl))
  | some v =>
    obtain ⟨y, mo, d⟩ := v
    k_steps
    all_goals (try k_data)
    all_goals (refine' ret _ _ _ _ _ _ _ _ _ _ ?g1 ?k2 ?q1 ?f2 ?n2; walk_at "my:endb"; (case q1 => exact rfl); (case g1 => rw [hq]; exact rfl))
theorem g9_due2 {QF : Flow → Shared → Prop} {fa cd : Addr} {ck : Int} {tck : Tok} {d1 : Addr} {y mo d : Int} {t1 t2 t3 : Tok} (hck : 0 ≤ ck ∧ ck < 65536) (hd1 : (d1, W.listOf #[.int y t1, .int mo t2, .int d t3] 0) ∈ news) (l_clock : m (Str.ofString "clock") = some (.int ck tck)) (l_due : m (Str.ofString "due") = some (.ref d1)) (B : Below A₀ h₀ [] h₀) (F : Fr h₀ L s.heap m) (X : (KK w.params).In h₀) (N : News h₀ L s.heap news) (T : Top VW LO mean mg mb h₀) (hd : dp + 80 < recursionLimit) (hu : un + 800 < cLine)
    (ret : ∀ m' h' tk' ho mi se d2 t4 t5 t6, (lawClock ck).getD (0, 0, 0) = (ho, mi, se) → Keep [Str.ofString "due"] m m' → m' (Str.ofString "due") = some (.ref d2) → Fr h₀ L h' m' → News h₀ L h' ((d2, W.listOf #[.int y t1, .int mo t2, .int d t3, .int ho t4, .int mi t5, .int se t6] 0) :: news) → QF .next { s with heap := h', toks := tk' }) :
    wpAny (model PR w) (ktrTop dp un (some []) (Str.ofString "law") f26S L fa (.ref cd) [(Str.ofString "start", L + 1)] []) (exec b15 (envX (Str.ofString "law") f26S L fa (.ref cd) [(Str.ofString "start", L + 1)])) QF E s := by
  have d0 : KtsDicts (([] : List Env).filterMap (·.frame)) h₀ := ktsDicts_nil
  have e0 : fo [(Str.ofString "clock", .int ck tck), (Str.ofString "due", .ref d1)] m = m := fo_cons (by assumption) (fo_cons (by assumption) fo_nil)
  have k0 : Keep [Str.ofString "due"] m (fo [(Str.ofString "clock", .int ck tck), (Str.ofString "due", .ref d1)] m) := Keep.of_eq e0
  replace F := e0.symm ▸ F
  clear e0
  dsimp only [b15, lit]
  cases hq : lawClock ck with
  | none =>
    k_steps
    all_goals (try k_data)
    all_goals (refine' ret _ _ _ _ _ _ _ _ _ _ ?g0 ?k ?q0 ?f ?n; walk_at "my:end"; (case q0 => exact rfl); (case g0 => rw [hq]; exact rfl))
  | some v =>
    obtain ⟨ho, mi, se⟩ := v
    k_steps
    all_goals (try k_data)
    all_goals (refine' ret _ _ _ _ _ _ _ _ _ _ ?g1 ?k2 ?q1 ?f2 ?n2; walk_at "my:endb"; (case q1 => exact rfl); (case g1 => rw [hq]; exact rfl))
def DateIs1 (wd : Int) (v : Int × Int × Int) : Prop := (lawDate wd).getD (1980, 1, 1) = v
def DateIs2 (wd : Int) (v : Int × Int × Int) : Prop := (lawDate wd).getD (1980, 1, 1) = v
def ClockIs (wd : Int) (v : Int × Int × Int) : Prop := (lawClock wd).getD (0, 0, 0) = v
theorem DateIs1.eq {wd : Int} {v u : Int × Int × Int} (h : DateIs1 wd v) (e : (lawDate wd).getD (1980, 1, 1) = u) : v = u := h.symm.trans e
theorem DateIs2.eq {wd : Int} {v u : Int × Int × Int} (h : DateIs2 wd v) (e : (lawDate wd).getD (1980, 1, 1) = u) : v = u := h.symm.trans e
theorem ClockIs.eq {wd : Int} {v u : Int × Int × Int} (h : ClockIs wd v) (e : (lawClock wd).getD (0, 0, 0) = u) : v = u := h.symm.trans e
theorem lay_L02j_1 : True := by
  k_with "call ref" => (first | (k_here; (with_reducible show wpAny _ _ (call (Value.ref 360) _ _) _ _ _); k_dflt (refine wpAny_call ?_; refine' m_ctime (by k_asm) (by k_asm) (by k_asm) (by k_asm) (by k_asm) (by first | exact rfl | assumption) (by walk_at "my:room") (by walk_at "my:room") (by k_mem) (by k_mem) (by walk_at "my:p") (by walk_at "my:p") (by assumption) (by assumption) (by assumption) (by first | assumption | exact KtsTurn.refl) ?_; k_whole); intro y9 mo9 d9 hs9 ho9 mi9 se9 hc9; (replace hs9 := DateIs1.eq (by assumption) hs9); (replace hc9 := ClockIs.eq (by assumption) hc9); (cases hs9); (cases hc9); intro g9 x9 dx9 u19 u29 u39 u49 u59 u69 t19 t29 t39 t49 t59 t69 h9 tk9 F9 N9 lt9 l29 B9 X9 T9 D9 K9; (try k_lt lt9); (try k_lt2 l29); (try dsimp only); (try k_fold)) | fail)
  k_with "call ref" => (first | (k_here; (with_reducible show wpAny _ _ (call (Value.ref 367) _ _) _ _ _); k_dflt (refine wpAny_call ?_; refine' m_mtime (by k_asm) (by k_asm) (by k_asm) (by k_asm) (by k_asm) (by first | exact rfl | assumption) (by walk_at "my:room") (by walk_at "my:room") (by k_mem) (by k_mem) (by walk_at "my:p") (by walk_at "my:p") (by assumption) (by assumption) (by assumption) (by first | assumption | exact KtsTurn.refl) ?_; k_whole); intro y9 mo9 d9 hs9 ho9 mi9 se9 hc9; (replace hs9 := DateIs1.eq (by assumption) hs9); (replace hc9 := ClockIs.eq (by assumption) hc9); (cases hs9); (cases hc9); intro g9 x9 dx9 u19 u29 u39 u49 u59 u69 t19 t29 t39 t49 t59 t69 h9 tk9 F9 N9 lt9 l29 B9 X9 T9 D9 K9; (try k_lt lt9); (try k_lt2 l29); (try dsimp only); (try k_fold)) | fail)
  k_with "call ref" => (first | (k_here; (with_reducible show wpAny _ _ (call (Value.ref 374) _ _) _ _ _); k_dflt (refine wpAny_call ?_; refine' m_atime (by k_asm) (by k_asm) (by k_asm) (by k_asm) (by k_asm) (by first | exact rfl | assumption) (by walk_at "my:room") (by walk_at "my:room") (by k_mem) (by k_mem) (by walk_at "my:p") (by assumption) (by assumption) (by assumption) (by first | assumption | exact KtsTurn.refl) ?_; k_whole); intro y9 mo9 d9 hs9; (replace hs9 := DateIs2.eq (by assumption) hs9); (cases hs9); intro g9 x9 dx9 u19 u29 u39 u49 u59 u69 t19 t29 t39 t49 t59 t69 h9 tk9 F9 N9 lt9 l29 B9 X9 T9 D9 K9; (try k_lt lt9); (try k_lt2 l29); (try dsimp only); (try k_fold)) | fail)
  trivial
theorem g10_ctime {QF : Flow → Shared → Prop} {fa cd : Addr} {xr dr e8 dl : Addr} {ten cT cD aD wT wD : Int} {w1 w2 w3 w4 w5 w6 w7 w8 w9 w10 w11 w12 w13 w14 w15 w16 w17 w18 r1 r2 r3 r4 r5 r6 r7 r8 r9 r10 r11 r12 : Tok} {d2 : Addr} {y mo d ho mi se : Int} {t1 t2 t3 t4 t5 t6 : Tok} (hcD : 0 ≤ cD ∧ cD < 65536) (hcT : 0 ≤ cT ∧ cT < 65536) (hq1 : DateIs1 cD (y, mo, d)) (hq2 : ClockIs cT (ho, mi, se)) (hxr : (xr, instObj 605 dr) ∈ news) (hdr : (dr, recDict w.params w1 w2 w3 w4 w5 w6 w7 w8 w9 w10 w11 w12 w13 w14 w15 w16 w17 w18 e8 dl ten cT cD aD wT wD r1 r2 r3 r4 r5 r6 r7 r8 r9 r10 r11 r12) ∈ news) (hd2 : (d2, W.listOf #[.int y t1, .int mo t2, .int d t3, .int ho t4, .int mi t5, .int se t6] 0) ∈ news) (l_record : m (Str.ofString "record") = some (.ref xr)) (l_due : m (Str.ofString "due") = some (.ref d2)) (B : Below A₀ h₀ [] h₀) (F : Fr h₀ L s.heap m) (X : (KK w.params).In h₀) (N : News h₀ L s.heap news) (T : Top VW LO mean mg mb h₀) (hd : dp + 80 < recursionLimit) (hu : un + 800 < cLine)
    (ret : ∀ m' h' tk' , Keep [] m m' → Fr h₀ L h' m' → News h₀ L h' news → QF .next { s with heap := h', toks := tk' }) :
    wpAny (model PR w) (ktrTop dp un (some []) (Str.ofString "law") f26S L fa (.ref cd) [(Str.ofString "start", L + 1)] []) (exec b16 (envX (Str.ofString "law") f26S L fa (.ref cd) [(Str.ofString "start", L + 1)])) QF E s := by
  have d0 : KtsDicts (([] : List Env).filterMap (·.frame)) h₀ := ktsDicts_nil
  have e0 : fo [(Str.ofString "record", .ref xr), (Str.ofString "due", .ref d2)] m = m := fo_cons (by assumption) (fo_cons (by assumption) fo_nil)
  have k0 : Keep [] m (fo [(Str.ofString "record", .ref xr), (Str.ofString "due", .ref d2)] m) := Keep.of_eq e0
  replace F := e0.symm ▸ F
  clear e0
  dsimp only [b16, lit]
  k_steps
  all_goals (try k_data)
  all_goals (refine' ret _ _ _   ?k  ?f ?n; walk_at "my:end")
theorem g11_times {QF : Flow → Shared → Prop} {fa cd : Addr} {xr dr e8 dl : Addr} {ten cT cD aD wT wD : Int} {w1 w2 w3 w4 w5 w6 w7 w8 w9 w10 w11 w12 w13 w14 w15 w16 w17 w18 r1 r2 r3 r4 r5 r6 r7 r8 r9 r10 r11 r12 : Tok} {fl sl : Addr} {ys ms dd hh mm ss sy sm sd : Int} {u1 u2 u3 u4 u5 u6 t1 t2 t3 : Tok} (hwD : 0 ≤ wD ∧ wD < 65536) (hwT : 0 ≤ wT ∧ wT < 65536) (haD : 0 ≤ aD ∧ aD < 65536) (hq1 : DateIs1 wD (ys, ms, dd)) (hq2 : ClockIs wT (hh, mm, ss.fdiv 2 * 2)) (hq3 : DateIs2 aD (sy, sm, sd)) (hxr : (xr, instObj 605 dr) ∈ news) (hdr : (dr, recDict w.params w1 w2 w3 w4 w5 w6 w7 w8 w9 w10 w11 w12 w13 w14 w15 w16 w17 w18 e8 dl ten cT cD aD wT wD r1 r2 r3 r4 r5 r6 r7 r8 r9 r10 r11 r12) ∈ news) (hfl : (fl, W.listOf #[.int ys u1, .int ms u2, .int dd u3, .int hh u4, .int mm u5, .int ss u6] 0) ∈ news) (hsl : (sl, W.listOf #[.int sy t1, .int sm t2, .int sd t3] 0) ∈ news) (l_record : m (Str.ofString "record") = some (.ref xr)) (l_fields : m (Str.ofString "fields") = some (.ref fl)) (l_seen : m (Str.ofString "seen") = some (.ref sl)) (B : Below A₀ h₀ [] h₀) (F : Fr h₀ L s.heap m) (X : (KK w.params).In h₀) (N : News h₀ L s.heap news) (T : Top VW LO mean mg mb h₀) (hd : dp + 80 < recursionLimit) (hu : un + 800 < cLine)
    (ret : ∀ m' h' tk' , Keep [] m m' → Fr h₀ L h' m' → News h₀ L h' news → QF .next { s with heap := h', toks := tk' }) :
    wpAny (model PR w) (ktrTop dp un (some []) (Str.ofString "law") f26S L fa (.ref cd) [(Str.ofString "start", L + 1)] []) (exec b17 (envX (Str.ofString "law") f26S L fa (.ref cd) [(Str.ofString "start", L + 1)])) QF E s := by
  have d0 : KtsDicts (([] : List Env).filterMap (·.frame)) h₀ := ktsDicts_nil
  have e0 : fo [(Str.ofString "record", .ref xr), (Str.ofString "fields", .ref fl), (Str.ofString "seen", .ref sl)] m = m := fo_cons (by assumption) (fo_cons (by assumption) (fo_cons (by assumption) fo_nil))
  have k0 : Keep [] m (fo [(Str.ofString "record", .ref xr), (Str.ofString "fields", .ref fl), (Str.ofString "seen", .ref sl)] m) := Keep.of_eq e0
  replace F := e0.symm ▸ F
  clear e0
  dsimp only [b17, lit]
  k_steps
  all_goals (try k_data)
  all_goals (refine' ret _ _ _   ?k  ?f ?n; walk_at "my:end")
noncomputable abbrev b18 : Stmt := lit (nthSt lawB 18) _ (by conv => lhs; whnf)
noncomputable abbrev b19 : Stmt := lit (nthSt lawB 19) _ (by conv => lhs; whnf)
noncomputable abbrev b20 : Stmt := lit (nthSt lawB 20) _ (by conv => lhs; whnf)
theorem g12_oct1 {QF : Flow → Shared → Prop} {fa cd : Addr} {ck wd sy sm sd : Int} {tck tw t1 t2 t3 : Tok} {sl : Addr} (hck : 0 ≤ ck ∧ ck < 65536) (hwd : 0 ≤ wd ∧ wd < 65536) (haD : 0 ≤ (sy - 1980) * 512 + sm * 32 + sd ∧ (sy - 1980) * 512 + sm * 32 + sd < 65536) (hsl : (sl, W.listOf #[.int sy t1, .int sm t2, .int sd t3] 0) ∈ news) (l_clock : m (Str.ofString "clock") = some (.int ck tck)) (l_word : m (Str.ofString "word") = some (.int wd tw)) (l_seen : m (Str.ofString "seen") = some (.ref sl)) (B : Below A₀ h₀ [] h₀) (F : Fr h₀ L s.heap m) (X : (KK w.params).In h₀) (N : News h₀ L s.heap news) (T : Top VW LO mean mg mb h₀) (hd : dp + 80 < recursionLimit) (hu : un + 800 < cLine)
    (ret : ∀ m' h' tk' ol o1 o2 o3 o4 o5 o6 o7 o8, Keep [Str.ofString "octets"] m m' → m' (Str.ofString "octets") = some (.ref ol) → Fr h₀ L h' m' → News h₀ L h' ((ol, W.listOf #[.int (ck.fmod 256) o1, .int (ck.fdiv 256) o2, .int (wd.fmod 256) o3, .int (wd.fdiv 256) o4, .int (((sy - 1980) * 512 + sm * 32 + sd).fmod 256) o5, .int (((sy - 1980) * 512 + sm * 32 + sd).fdiv 256) o6, .int 0 o7, .int 0 o8] 0) :: news) → QF .next { s with heap := h', toks := tk' }) :
    wpAny (model PR w) (ktrTop dp un (some []) (Str.ofString "law") f26S L fa (.ref cd) [(Str.ofString "start", L + 1)] []) (exec b18 (envX (Str.ofString "law") f26S L fa (.ref cd) [(Str.ofString "start", L + 1)])) QF E s := by
  have d0 : KtsDicts (([] : List Env).filterMap (·.frame)) h₀ := ktsDicts_nil
  have e0 : fo [(Str.ofString "clock", .int ck tck), (Str.ofString "word", .int wd tw), (Str.ofString "seen", .ref sl)] m = m := fo_cons (by assumption) (fo_cons (by assumption) (fo_cons (by assumption) fo_nil))
  have k0 : Keep [Str.ofString "octets"] m (fo [(Str.ofString "clock", .int ck tck), (Str.ofString "word", .int wd tw), (Str.ofString "seen", .ref sl)] m) := Keep.of_eq e0
  replace F := e0.symm ▸ F
  clear e0
  dsimp only [b18, lit]
  k_steps
  all_goals (try k_data)
  all_goals (refine' ret _ _ _ _ _ _ _ _ _ _ _ _  ?k ?q0 ?f ?n; walk_at "my:end"; (case q0 => exact rfl))
theorem g12_oct2 {QF : Flow → Shared → Prop} {fa cd : Addr} {ck wd sy sm sd ys ms dd hh mm ss : Int} {u1 u2 u3 u4 u5 u6 ty tm o1 o2 o3 o4 o5 o6 o7 o8 : Tok} {fl ol : Addr} (hwT : 0 ≤ hh * 2048 + mm * 32 + ss.fdiv 2 ∧ hh * 2048 + mm * 32 + ss.fdiv 2 < 65536) (hwD : 0 ≤ (ys - 1980) * 512 + ms * 32 + dd ∧ (ys - 1980) * 512 + ms * 32 + dd < 65536) (hfl : (fl, W.listOf #[.int ys u1, .int ms u2, .int dd u3, .int hh u4, .int mm u5, .int ss u6] 0) ∈ news) (hol : (ol, W.listOf #[.int (ck.fmod 256) o1, .int (ck.fdiv 256) o2, .int (wd.fmod 256) o3, .int (wd.fdiv 256) o4, .int (((sy - 1980) * 512 + sm * 32 + sd).fmod 256) o5, .int (((sy - 1980) * 512 + sm * 32 + sd).fdiv 256) o6, .int 0 o7, .int 0 o8] 0) ∈ news) (l_octets : m (Str.ofString "octets") = some (.ref ol)) (l_fields : m (Str.ofString "fields") = some (.ref fl)) (l_years : m (Str.ofString "years") = some (.int ys ty)) (l_months : m (Str.ofString "months") = some (.int ms tm)) (B : Below A₀ h₀ [] h₀) (F : Fr h₀ L s.heap m) (X : (KK w.params).In h₀) (N : News h₀ L s.heap news) (T : Top VW LO mean mg mb h₀) (hd : dp + 80 < recursionLimit) (hu : un + 800 < cLine)
    (ret : ∀ m' h' tk' o2l o9 o10 o11 o12, Keep [Str.ofString "octets"] m m' → m' (Str.ofString "octets") = some (.ref o2l) → Fr h₀ L h' m' → News h₀ L h' ((o2l, W.listOf #[.int (ck.fmod 256) o1, .int (ck.fdiv 256) o2, .int (wd.fmod 256) o3, .int (wd.fdiv 256) o4, .int (((sy - 1980) * 512 + sm * 32 + sd).fmod 256) o5, .int (((sy - 1980) * 512 + sm * 32 + sd).fdiv 256) o6, .int 0 o7, .int 0 o8, .int ((hh * 2048 + mm * 32 + ss.fdiv 2).fmod 256) o9, .int ((hh * 2048 + mm * 32 + ss.fdiv 2).fdiv 256) o10, .int (((ys - 1980) * 512 + ms * 32 + dd).fmod 256) o11, .int (((ys - 1980) * 512 + ms * 32 + dd).fdiv 256) o12] 0) :: news) → QF .next { s with heap := h', toks := tk' }) :
    wpAny (model PR w) (ktrTop dp un (some []) (Str.ofString "law") f26S L fa (.ref cd) [(Str.ofString "start", L + 1)] []) (exec b19 (envX (Str.ofString "law") f26S L fa (.ref cd) [(Str.ofString "start", L + 1)])) QF E s := by
  have d0 : KtsDicts (([] : List Env).filterMap (·.frame)) h₀ := ktsDicts_nil
  have e0 : fo [(Str.ofString "octets", .ref ol), (Str.ofString "fields", .ref fl), (Str.ofString "years", .int ys ty), (Str.ofString "months", .int ms tm)] m = m := fo_cons (by assumption) (fo_cons (by assumption) (fo_cons (by assumption) (fo_cons (by assumption) fo_nil)))
  have k0 : Keep [Str.ofString "octets"] m (fo [(Str.ofString "octets", .ref ol), (Str.ofString "fields", .ref fl), (Str.ofString "years", .int ys ty), (Str.ofString "months", .int ms tm)] m) := Keep.of_eq e0
  replace F := e0.symm ▸ F
  clear e0
  dsimp only [b19, lit]
  k_steps
  all_goals (try k_data)
  all_goals (refine' ret _ _ _ _ _ _ _ _  ?k ?q0 ?f ?n; walk_at "my:end"; (case q0 => exact rfl))
noncomputable abbrev b21 : Stmt := lit (nthSt lawB 21) _ (by conv => lhs; whnf)
noncomputable abbrev b22 : Stmt := lit (nthSt lawB 22) _ (by conv => lhs; whnf)
noncomputable abbrev b23 : Stmt := lit (nthSt lawB 23) _ (by conv => lhs; whnf)
noncomputable abbrev b24 : Stmt := lit (nthSt lawB 24) _ (by conv => lhs; whnf)
noncomputable abbrev b25 : Stmt := lit (nthSt lawB 25) _ (by conv => lhs; whnf)
section
variable {prog : Program} {A₀ : Around} {s' : Shared} {h : Heap} {a e t : Addr} {name : Str} {scope : Scope} {cl : List (Str × Addr)} {vs : List Value} {b₀ : Stmt} {suite : List Stmt} {pos np : Pos} {rest : List ExceptHandler} {Q : Flow → Shared → Prop} {X : String}
theorem caughtX (hA : A₀.frames = some [envX name scope L a ccd cl]) (F : Fr h₀ L h m) (hsm : h.UpToSlots s'.heap) (R : RaisedK h₀ [envX name scope L a ccd cl] e (.type X) t vs news s'.heap)
    (XX : (KK w.params).In h₀) (T : Top VW LO mean mg mb h₀) (hsub : isSubtype (.type X) (.type "ValueError") = pure true)
    (k : ∀ h', Fr h₀ L h' m → News h₀ L h' news →
      wpAny (model prog w) (A₀.mark (some (.ref e))) (execs (b₀ :: suite) (envX name scope L a ccd cl)) Q (fun _ _ => False) { s' with heap := h' })
    (hk : scope.kind = .function := by rfl) (hx : (envX name scope L a ccd cl).kindOf (Str.ofString "ValueError") = some .globalImplicit := by rfl) :
    wpAny (model prog w) A₀ (noteFrame (.ref e) (envX name scope L a ccd cl))
      (fun _ s₂ => wpAny (model prog w) A₀ (setFlight (.ref e) none) (fun _ s₃ =>
        wpAny (model prog w) A₀ (handleBy (.ref e) (envX name scope L a ccd cl) (.ExceptHandler (some (.Name (Str.ofString "ValueError") np)) none (b₀ :: suite) pos :: rest)) Q (fun _ _ => False) s₃) (fun _ _ => False) s₂) (fun _ _ => False) s' := by
  obtain ⟨⟨B, hB, hl, hfl, hnew⟩, htup⟩ := R
  have hL : B.get? L = none := by
    obtain ⟨_, ⟨L', _, hf, hn', _⟩, _⟩ := hfl.2.2.1
    obtain rfl : L = L' := Option.some.inj hf
    exact hn'
  refine wpAny_looks_onW hA rfl hfl fun h₄ hheld₄ hsm₄ => ?_
  refine wpAny_landsW hheld₄ fun h₅ hheld hsm₅' => ?_
  have hsm₅ := hsm₄.trans hsm₅'
  have hheld' := flyingW_base hB hheld
  have F₅ := F.of_stays hheld'.1 (hsm.trans hsm₅)
  obtain ⟨ob, hob, hobc⟩ := hheld'.there
  refine wpAny_handleBy_builtin (X := X) (T := "ValueError") (b := true) PySem.F.isExc_ValueError PySem.F.notTuple_ValueError hsub (nameX_B F₅ XX (by k_asm) (by k_is) PyProof.Rows.Boot.«ValueError» (by decide) ⟨rfl, ⟨ob, hob, hobc⟩, ?_⟩ hk hx)
  refine lands_againW hheld fun h₆ hfl₆ hsm₆ => ?_
  have hfl₆' := flyingW_base hB hfl₆
  have F₆ := F.of_stays hfl₆'.1 ((hsm.trans hsm₅).trans hsm₆)
  exact wpAny_passesOwnAt PassesOwnAt.never (k h₆ F₆ fun q hq => ⟨hfl₆.1 _ _ (hl q hq).1, (fun z => by have := (hl q hq).1; rw [z, hL] at this; cases this), (hl q hq).2⟩)
end
theorem lay_L02n_1 : True := by
  k_with "exec Try" => (first | (k_here; refine wpAny_Try_except ?_) | fail)
  k_with "noteFrame ref" => (first | (k_here; (rename RaisedK _ _ _ _ _ _ _ _ => rkX); refine' caughtX (by rfl) (by assumption) (by assumption) rkX (by k_asm) (by k_asm) (by (rw [isSubtype_type]; kernel_rfl)) ?_; k_whole; intro h' F' N'; (try k_sweep)) | fail)
  trivial
theorem g14_badA {QF : Flow → Shared → Prop} {fa cd : Addr} {fl : Addr} {ys ms dd hh mm ss : Int} {u1 u2 u3 u4 u5 u6 : Tok} (hv : (1980 ≤ ys ∧ ys ≤ 2107) ∧ (ms = 0 ∨ ms = 13 ∨ ((1 ≤ ms ∧ ms ≤ 12) ∧ dd = 0))) (hfl : (fl, W.listOf #[.int ys u1, .int ms u2, .int dd u3, .int hh u4, .int mm u5, .int ss u6] 0) ∈ news) (l_fields : m (Str.ofString "fields") = some (.ref fl)) (B : Below A₀ h₀ [] h₀) (F : Fr h₀ L s.heap m) (X : (KK w.params).In h₀) (N : News h₀ L s.heap news) (T : Top VW LO mean mg mb h₀) (hd : dp + 80 < recursionLimit) (hu : un + 800 < cLine)
    (ret : ∀ m' h' tk' , Keep [Str.ofString "refused"] m m' → m' (Str.ofString "refused") = some (.bool true) → Fr h₀ L h' m' → News h₀ L h' news → QF .next { s with heap := h', toks := tk' }) :
    wpAny (model PR w) (ktrTop dp un (some []) (Str.ofString "law") f26S L fa (.ref cd) [(Str.ofString "start", L + 1)] []) (exec b24 (envX (Str.ofString "law") f26S L fa (.ref cd) [(Str.ofString "start", L + 1)])) QF (fun _ _ => False) s := by
  have d0 : KtsDicts (([] : List Env).filterMap (·.frame)) h₀ := ktsDicts_nil
  have e0 : fo [(Str.ofString "fields", .ref fl)] m = m := fo_cons (by assumption) fo_nil
  have k0 : Keep [Str.ofString "refused"] m (fo [(Str.ofString "fields", .ref fl)] m) := Keep.of_eq e0
  replace F := e0.symm ▸ F
  clear e0
  dsimp only [b24, lit]
  k_steps
  all_goals (try k_data)
  all_goals (refine' ret _ _ _   ?k ?q0 ?f ?n; walk_at "my:end"; (case q0 => exact rfl))
theorem lay_L02o_1 : True := by
  k_with "exec Try" => (first | (k_here; refine wpAny_Try_except ?_) | fail)
  k_with "noteFrame ref" => (first | (k_here; (rename RaisedK _ _ _ _ _ _ _ _ => rkX); refine' caughtX (by rfl) (by assumption) (by assumption) rkX (by k_asm) (by k_asm) (by (rw [isSubtype_type]; kernel_rfl)) ?_; k_whole; intro h' F' N'; (try k_sweep)) | fail)
  trivial
theorem g14_badB {QF : Flow → Shared → Prop} {fa cd : Addr} {fl : Addr} {ys ms dd hh mm ss : Int} {u1 u2 u3 u4 u5 u6 : Tok} (hv : (1980 ≤ ys ∧ ys ≤ 2107) ∧ (1 ≤ ms ∧ ms ≤ 12) ∧ dd = 1 + lawLen ys ms) (hfl : (fl, W.listOf #[.int ys u1, .int ms u2, .int dd u3, .int hh u4, .int mm u5, .int ss u6] 0) ∈ news) (l_fields : m (Str.ofString "fields") = some (.ref fl)) (B : Below A₀ h₀ [] h₀) (F : Fr h₀ L s.heap m) (X : (KK w.params).In h₀) (N : News h₀ L s.heap news) (T : Top VW LO mean mg mb h₀) (hd : dp + 80 < recursionLimit) (hu : un + 800 < cLine)
    (ret : ∀ m' h' tk' , Keep [Str.ofString "refused"] m m' → m' (Str.ofString "refused") = some (.bool true) → Fr h₀ L h' m' → News h₀ L h' news → QF .next { s with heap := h', toks := tk' }) :
    wpAny (model PR w) (ktrTop dp un (some []) (Str.ofString "law") f26S L fa (.ref cd) [(Str.ofString "start", L + 1)] []) (exec b24 (envX (Str.ofString "law") f26S L fa (.ref cd) [(Str.ofString "start", L + 1)])) QF (fun _ _ => False) s := by
  have d0 : KtsDicts (([] : List Env).filterMap (·.frame)) h₀ := ktsDicts_nil
  have e0 : fo [(Str.ofString "fields", .ref fl)] m = m := fo_cons (by assumption) fo_nil
  have k0 : Keep [Str.ofString "refused"] m (fo [(Str.ofString "fields", .ref fl)] m) := Keep.of_eq e0
  replace F := e0.symm ▸ F
  clear e0
  have z0 := lawLen_range ys ms
  have z1 : leapD ms ys ([31, 28, 31, 30, 31, 30, 31, 31, 30, 31, 30, 31].getD (ms - 1).toNat (0 : Int)) < dd := (leap_len hv.2.1.1 hv.2.1.2).symm ▸ (show lawLen ys ms < dd by have := hv.2.2; omega)
  dsimp only [b24, lit]
  k_steps
  all_goals (try k_data)
  all_goals (refine' ret _ _ _   ?k ?q0 ?f ?n; walk_at "my:end"; (case q0 => exact rfl))
theorem lay_L02p_1 : True := by
  k_with "exec Try" => (first | (k_here; refine wpAny_Try_except ?_) | fail)
  k_with "noteFrame ref" => (first | (k_here; (rename RaisedK _ _ _ _ _ _ _ _ => rkX); refine' caughtX (by rfl) (by assumption) (by assumption) rkX (by k_asm) (by k_asm) (by (rw [isSubtype_type]; kernel_rfl)) ?_; k_whole; intro h' F' N'; (try k_sweep)) | fail)
  trivial
theorem g14_badC {QF : Flow → Shared → Prop} {fa cd : Addr} {fl : Addr} {ys ms dd hh mm ss : Int} {u1 u2 u3 u4 u5 u6 : Tok} (hv : ((1980 ≤ ys ∧ ys ≤ 2107) ∧ (1 ≤ ms ∧ ms ≤ 12) ∧ (1 ≤ dd ∧ dd ≤ lawLen ys ms)) ∧ (hh = 24 ∨ hh = -1 ∨ ((0 ≤ hh ∧ hh ≤ 23) ∧ (mm = 60 ∨ mm = -1 ∨ ((0 ≤ mm ∧ mm ≤ 59) ∧ (ss = 60 ∨ ss = -1)))))) (hfl : (fl, W.listOf #[.int ys u1, .int ms u2, .int dd u3, .int hh u4, .int mm u5, .int ss u6] 0) ∈ news) (l_fields : m (Str.ofString "fields") = some (.ref fl)) (B : Below A₀ h₀ [] h₀) (F : Fr h₀ L s.heap m) (X : (KK w.params).In h₀) (N : News h₀ L s.heap news) (T : Top VW LO mean mg mb h₀) (hd : dp + 80 < recursionLimit) (hu : un + 800 < cLine)
    (ret : ∀ m' h' tk' , Keep [Str.ofString "refused"] m m' → m' (Str.ofString "refused") = some (.bool true) → Fr h₀ L h' m' → News h₀ L h' news → QF .next { s with heap := h', toks := tk' }) :
    wpAny (model PR w) (ktrTop dp un (some []) (Str.ofString "law") f26S L fa (.ref cd) [(Str.ofString "start", L + 1)] []) (exec b24 (envX (Str.ofString "law") f26S L fa (.ref cd) [(Str.ofString "start", L + 1)])) QF (fun _ _ => False) s := by
  have d0 : KtsDicts (([] : List Env).filterMap (·.frame)) h₀ := ktsDicts_nil
  have e0 : fo [(Str.ofString "fields", .ref fl)] m = m := fo_cons (by assumption) fo_nil
  have k0 : Keep [Str.ofString "refused"] m (fo [(Str.ofString "fields", .ref fl)] m) := Keep.of_eq e0
  replace F := e0.symm ▸ F
  clear e0
  have z0 := lawLen_range ys ms
  have z1 : dd ≤ leapD ms ys ([31, 28, 31, 30, 31, 30, 31, 31, 30, 31, 30, 31].getD (ms - 1).toNat (0 : Int)) := (leap_len hv.1.2.1.1 hv.1.2.1.2).symm ▸ hv.1.2.2.2
  dsimp only [b24, lit]
  k_steps
  all_goals (try k_data)
  all_goals (refine' ret _ _ _   ?k ?q0 ?f ?n; walk_at "my:end"; (case q0 => exact rfl))
def BadSix (ys ms dd hh mm ss : Int) : Prop := (1980 ≤ ys ∧ ys ≤ 2107) ∧ ((ms = 0 ∨ ms = 13 ∨ ((1 ≤ ms ∧ ms ≤ 12) ∧ dd = 0)) ∨ ((1 ≤ ms ∧ ms ≤ 12) ∧ dd = 1 + lawLen ys ms) ∨
  (((1 ≤ ms ∧ ms ≤ 12) ∧ (1 ≤ dd ∧ dd ≤ lawLen ys ms)) ∧ (hh = 24 ∨ hh = -1 ∨ ((0 ≤ hh ∧ hh ≤ 23) ∧ (mm = 60 ∨ mm = -1 ∨ ((0 ≤ mm ∧ mm ≤ 59) ∧ (ss = 60 ∨ ss = -1)))))))
def Ten (x : Int) : Prop := x = 0 ∨ x = 1 ∨ x = 2 ∨ x = 3 ∨ x = 4 ∨ x = 5 ∨ x = 6 ∨ x = 7 ∨ x = 8 ∨ x = 9
theorem ten_of {x : Int} (h : 0 ≤ x ∧ x < 10) : Ten x := by
  obtain ⟨k, rfl⟩ := Int.eq_ofNat_of_zero_le h.1
  have : ∀ k : Nat, k < 10 → (k : Int) = 0 ∨ (k : Int) = 1 ∨ (k : Int) = 2 ∨ (k : Int) = 3 ∨ (k : Int) = 4 ∨ (k : Int) = 5 ∨ (k : Int) = 6 ∨ (k : Int) = 7 ∨ (k : Int) = 8 ∨ (k : Int) = 9 := by decide
  exact this k (by omega)
theorem lay_L02q_1 : True := by
  k_with "spliced" => (first | (k_here; dsimp only) | fail)
  k_with "subscriptTail" => (first | (k_here; (with_reducible show wpAny _ _ (subscriptTail _ _ (Value.ref _) (Value.int _ _)) _ _ _); (rename Ten _ => q10); (unfold Ten at q10); (rcases q10 with q | q | q | q | q | q | q | q | q | q) <;> subst q <;> (try dsimp only)) | fail)
  trivial
theorem g14_which {QF : Flow → Shared → Prop} {fa cd : Addr} {hv : Int} {t1 : Tok}  (l_head : m (Str.ofString "head") = some (.int hv t1)) (B : Below A₀ h₀ [] h₀) (F : Fr h₀ L s.heap m) (X : (KK w.params).In h₀) (N : News h₀ L s.heap news) (T : Top VW LO mean mg mb h₀) (hd : dp + 80 < recursionLimit) (hu : un + 800 < cLine)
    (ret : ∀ m' h' tk' wh tw, (0 ≤ wh ∧ wh < 10) → Keep [Str.ofString "which"] m m' → m' (Str.ofString "which") = some (.int wh tw) → Fr h₀ L h' m' → News h₀ L h' news → QF .next { s with heap := h', toks := tk' }) :
    wpAny (model PR w) (ktrTop dp un (some []) (Str.ofString "law") f26S L fa (.ref cd) [(Str.ofString "start", L + 1)] []) (exec b21 (envX (Str.ofString "law") f26S L fa (.ref cd) [(Str.ofString "start", L + 1)])) QF E s := by
  have d0 : KtsDicts (([] : List Env).filterMap (·.frame)) h₀ := ktsDicts_nil
  have e0 : fo [(Str.ofString "head", .int hv t1)] m = m := fo_cons (by assumption) fo_nil
  have k0 : Keep [Str.ofString "which"] m (fo [(Str.ofString "head", .int hv t1)] m) := Keep.of_eq e0
  replace F := e0.symm ▸ F
  clear e0
  have z1 : (hv.fdiv 200).fmod 10 = (hv.fdiv 200) % 10 := Int.fmod_eq_emod_of_nonneg _ (by decide)
  dsimp only [b21, lit]
  k_steps
  all_goals (try k_data)
  all_goals (refine' ret _ _ _ _ _ ?g0 ?k ?q0 ?f ?n; walk_at "my:end"; (case q0 => exact rfl); (case g0 => and_intros <;> omega))
noncomputable def nthEl (st : Stmt) (i : Nat) : Expr := match st with
  | .Assign _ (.Subscript (.List es p) _ _) _ => es.getD i (.List [] p)
  | _ => .List [] default
noncomputable abbrev ten0 : Expr := lit (nthEl b22 0) _ (by conv => lhs; whnf)
noncomputable abbrev ten1 : Expr := lit (nthEl b22 1) _ (by conv => lhs; whnf)
noncomputable abbrev ten2 : Expr := lit (nthEl b22 2) _ (by conv => lhs; whnf)
noncomputable abbrev ten3 : Expr := lit (nthEl b22 3) _ (by conv => lhs; whnf)
noncomputable abbrev ten4 : Expr := lit (nthEl b22 4) _ (by conv => lhs; whnf)
noncomputable abbrev ten5 : Expr := lit (nthEl b22 5) _ (by conv => lhs; whnf)
noncomputable abbrev ten6 : Expr := lit (nthEl b22 6) _ (by conv => lhs; whnf)
noncomputable abbrev ten7 : Expr := lit (nthEl b22 7) _ (by conv => lhs; whnf)
noncomputable abbrev ten8 : Expr := lit (nthEl b22 8) _ (by conv => lhs; whnf)
noncomputable abbrev ten9 : Expr := lit (nthEl b22 9) _ (by conv => lhs; whnf)
def ElSpec (e : Expr) (ys ms dd hh mm ss a b c d f : Int) : Prop :=
  ∀ {w : World} {mean : ExcName → Option Value} {mg mb : Str → Option Value} {dp un : Nat} {A₀ : Around} {h₀ : Heap} {L : Addr} {m : Str → Option Value} {news : List (Addr × Obj)} {s : Shared} {Q : Value → Shared → Prop} {fa cd fl : Addr} {u1 u2 u3 u4 u5 u6 y1 m1 : Tok},
    Below A₀ h₀ [] h₀ → Fr h₀ L s.heap m → (KK w.params).In h₀ → News h₀ L s.heap news → Top VW LO mean mg mb h₀ → dp + 80 < recursionLimit → un + 800 < cLine →
    m (Str.ofString "fields") = some (.ref fl) → m (Str.ofString "years") = some (.int ys y1) → m (Str.ofString "months") = some (.int ms m1) → (fl, W.listOf #[.int ys u1, .int ms u2, .int dd u3, .int hh u4, .int mm u5, .int ss u6] 0) ∈ news →
    (∀ l v1 v2 v3 v4 v5 v6 h' tk', Fr h₀ L h' m → News h₀ L h' ((l, W.listOf #[.int ys v1, .int a v2, .int b v3, .int c v4, .int d v5, .int f v6] 0) :: news) → Q (.ref l) { s with heap := h', toks := tk' }) →
    wpAny (model PR w) (ktrTop dp un (some []) (Str.ofString "law") f26S L fa (.ref cd) [(Str.ofString "start", L + 1)] []) (eval e (envX (Str.ofString "law") f26S L fa (.ref cd) [(Str.ofString "start", L + 1)])) Q (fun _ _ => False) s
theorem el0 {ys ms dd hh mm ss : Int} (z0 : 28 ≤ lawLen ys ms ∧ lawLen ys ms ≤ 31) : ElSpec ten0 ys ms dd hh mm ss ms 0 hh mm ss := by
  intro w mean mg mb dp un A₀ h₀ L m news s Q fa cd fl u1 u2 u3 u4 u5 u6 y1 m1 B F X N T hd hu l_fields l_years l_months hfl ret
  have d0 : KtsDicts (([] : List Env).filterMap (·.frame)) h₀ := ktsDicts_nil
  have e0 : fo [(Str.ofString "fields", .ref fl), (Str.ofString "years", .int ys y1), (Str.ofString "months", .int ms m1)] m = m := fo_cons l_fields (fo_cons l_years (fo_cons l_months fo_nil))
  have F2 : Fr h₀ L s.heap (fo [(Str.ofString "fields", .ref fl), (Str.ofString "years", .int ys y1), (Str.ofString "months", .int ms m1)] m) := e0.symm ▸ F
  replace ret := fun l v1 v2 v3 v4 v5 v6 h' tk' (F' : Fr h₀ L h' (fo [(Str.ofString "fields", .ref fl), (Str.ofString "years", .int ys y1), (Str.ofString "months", .int ms m1)] m)) => ret l v1 v2 v3 v4 v5 v6 h' tk' (e0 ▸ F')
  clear e0 F
  dsimp only [ten0, lit]
  k_steps
  all_goals (exact ret _ _ _ _ _ _ _ _ _ (by k_asm) (by walk_at "my:n"))
theorem el1 {ys ms dd hh mm ss : Int} (z0 : 28 ≤ lawLen ys ms ∧ lawLen ys ms ≤ 31) : ElSpec ten1 ys ms dd hh mm ss ms (1 + lawLen ys ms) hh mm ss := by
  intro w mean mg mb dp un A₀ h₀ L m news s Q fa cd fl u1 u2 u3 u4 u5 u6 y1 m1 B F X N T hd hu l_fields l_years l_months hfl ret
  have d0 : KtsDicts (([] : List Env).filterMap (·.frame)) h₀ := ktsDicts_nil
  have e0 : fo [(Str.ofString "fields", .ref fl), (Str.ofString "years", .int ys y1), (Str.ofString "months", .int ms m1)] m = m := fo_cons l_fields (fo_cons l_years (fo_cons l_months fo_nil))
  have F2 : Fr h₀ L s.heap (fo [(Str.ofString "fields", .ref fl), (Str.ofString "years", .int ys y1), (Str.ofString "months", .int ms m1)] m) := e0.symm ▸ F
  replace ret := fun l v1 v2 v3 v4 v5 v6 h' tk' (F' : Fr h₀ L h' (fo [(Str.ofString "fields", .ref fl), (Str.ofString "years", .int ys y1), (Str.ofString "months", .int ms m1)] m)) => ret l v1 v2 v3 v4 v5 v6 h' tk' (e0 ▸ F')
  clear e0 F
  dsimp only [ten1, lit]
  k_steps
  all_goals (exact ret _ _ _ _ _ _ _ _ _ (by k_asm) (by walk_at "my:n"))
theorem el2 {ys ms dd hh mm ss : Int} (z0 : 28 ≤ lawLen ys ms ∧ lawLen ys ms ≤ 31) : ElSpec ten2 ys ms dd hh mm ss 0 dd hh mm ss := by
  intro w mean mg mb dp un A₀ h₀ L m news s Q fa cd fl u1 u2 u3 u4 u5 u6 y1 m1 B F X N T hd hu l_fields l_years l_months hfl ret
  have d0 : KtsDicts (([] : List Env).filterMap (·.frame)) h₀ := ktsDicts_nil
  have e0 : fo [(Str.ofString "fields", .ref fl), (Str.ofString "years", .int ys y1), (Str.ofString "months", .int ms m1)] m = m := fo_cons l_fields (fo_cons l_years (fo_cons l_months fo_nil))
  have F2 : Fr h₀ L s.heap (fo [(Str.ofString "fields", .ref fl), (Str.ofString "years", .int ys y1), (Str.ofString "months", .int ms m1)] m) := e0.symm ▸ F
  replace ret := fun l v1 v2 v3 v4 v5 v6 h' tk' (F' : Fr h₀ L h' (fo [(Str.ofString "fields", .ref fl), (Str.ofString "years", .int ys y1), (Str.ofString "months", .int ms m1)] m)) => ret l v1 v2 v3 v4 v5 v6 h' tk' (e0 ▸ F')
  clear e0 F
  dsimp only [ten2, lit]
  k_steps
  all_goals (exact ret _ _ _ _ _ _ _ _ _ (by k_asm) (by walk_at "my:n"))
theorem el3 {ys ms dd hh mm ss : Int} (z0 : 28 ≤ lawLen ys ms ∧ lawLen ys ms ≤ 31) : ElSpec ten3 ys ms dd hh mm ss 13 dd hh mm ss := by
  intro w mean mg mb dp un A₀ h₀ L m news s Q fa cd fl u1 u2 u3 u4 u5 u6 y1 m1 B F X N T hd hu l_fields l_years l_months hfl ret
  have d0 : KtsDicts (([] : List Env).filterMap (·.frame)) h₀ := ktsDicts_nil
  have e0 : fo [(Str.ofString "fields", .ref fl), (Str.ofString "years", .int ys y1), (Str.ofString "months", .int ms m1)] m = m := fo_cons l_fields (fo_cons l_years (fo_cons l_months fo_nil))
  have F2 : Fr h₀ L s.heap (fo [(Str.ofString "fields", .ref fl), (Str.ofString "years", .int ys y1), (Str.ofString "months", .int ms m1)] m) := e0.symm ▸ F
  replace ret := fun l v1 v2 v3 v4 v5 v6 h' tk' (F' : Fr h₀ L h' (fo [(Str.ofString "fields", .ref fl), (Str.ofString "years", .int ys y1), (Str.ofString "months", .int ms m1)] m)) => ret l v1 v2 v3 v4 v5 v6 h' tk' (e0 ▸ F')
  clear e0 F
  dsimp only [ten3, lit]
  k_steps
  all_goals (exact ret _ _ _ _ _ _ _ _ _ (by k_asm) (by walk_at "my:n"))
theorem el4 {ys ms dd hh mm ss : Int} (z0 : 28 ≤ lawLen ys ms ∧ lawLen ys ms ≤ 31) : ElSpec ten4 ys ms dd hh mm ss ms dd 24 mm ss := by
  intro w mean mg mb dp un A₀ h₀ L m news s Q fa cd fl u1 u2 u3 u4 u5 u6 y1 m1 B F X N T hd hu l_fields l_years l_months hfl ret
  have d0 : KtsDicts (([] : List Env).filterMap (·.frame)) h₀ := ktsDicts_nil
  have e0 : fo [(Str.ofString "fields", .ref fl), (Str.ofString "years", .int ys y1), (Str.ofString "months", .int ms m1)] m = m := fo_cons l_fields (fo_cons l_years (fo_cons l_months fo_nil))
  have F2 : Fr h₀ L s.heap (fo [(Str.ofString "fields", .ref fl), (Str.ofString "years", .int ys y1), (Str.ofString "months", .int ms m1)] m) := e0.symm ▸ F
  replace ret := fun l v1 v2 v3 v4 v5 v6 h' tk' (F' : Fr h₀ L h' (fo [(Str.ofString "fields", .ref fl), (Str.ofString "years", .int ys y1), (Str.ofString "months", .int ms m1)] m)) => ret l v1 v2 v3 v4 v5 v6 h' tk' (e0 ▸ F')
  clear e0 F
  dsimp only [ten4, lit]
  k_steps
  all_goals (exact ret _ _ _ _ _ _ _ _ _ (by k_asm) (by walk_at "my:n"))
theorem el5 {ys ms dd hh mm ss : Int} (z0 : 28 ≤ lawLen ys ms ∧ lawLen ys ms ≤ 31) : ElSpec ten5 ys ms dd hh mm ss ms dd hh 60 ss := by
  intro w mean mg mb dp un A₀ h₀ L m news s Q fa cd fl u1 u2 u3 u4 u5 u6 y1 m1 B F X N T hd hu l_fields l_years l_months hfl ret
  have d0 : KtsDicts (([] : List Env).filterMap (·.frame)) h₀ := ktsDicts_nil
  have e0 : fo [(Str.ofString "fields", .ref fl), (Str.ofString "years", .int ys y1), (Str.ofString "months", .int ms m1)] m = m := fo_cons l_fields (fo_cons l_years (fo_cons l_months fo_nil))
  have F2 : Fr h₀ L s.heap (fo [(Str.ofString "fields", .ref fl), (Str.ofString "years", .int ys y1), (Str.ofString "months", .int ms m1)] m) := e0.symm ▸ F
  replace ret := fun l v1 v2 v3 v4 v5 v6 h' tk' (F' : Fr h₀ L h' (fo [(Str.ofString "fields", .ref fl), (Str.ofString "years", .int ys y1), (Str.ofString "months", .int ms m1)] m)) => ret l v1 v2 v3 v4 v5 v6 h' tk' (e0 ▸ F')
  clear e0 F
  dsimp only [ten5, lit]
  k_steps
  all_goals (exact ret _ _ _ _ _ _ _ _ _ (by k_asm) (by walk_at "my:n"))
theorem el6 {ys ms dd hh mm ss : Int} (z0 : 28 ≤ lawLen ys ms ∧ lawLen ys ms ≤ 31) : ElSpec ten6 ys ms dd hh mm ss ms dd hh mm 60 := by
  intro w mean mg mb dp un A₀ h₀ L m news s Q fa cd fl u1 u2 u3 u4 u5 u6 y1 m1 B F X N T hd hu l_fields l_years l_months hfl ret
  have d0 : KtsDicts (([] : List Env).filterMap (·.frame)) h₀ := ktsDicts_nil
  have e0 : fo [(Str.ofString "fields", .ref fl), (Str.ofString "years", .int ys y1), (Str.ofString "months", .int ms m1)] m = m := fo_cons l_fields (fo_cons l_years (fo_cons l_months fo_nil))
  have F2 : Fr h₀ L s.heap (fo [(Str.ofString "fields", .ref fl), (Str.ofString "years", .int ys y1), (Str.ofString "months", .int ms m1)] m) := e0.symm ▸ F
  replace ret := fun l v1 v2 v3 v4 v5 v6 h' tk' (F' : Fr h₀ L h' (fo [(Str.ofString "fields", .ref fl), (Str.ofString "years", .int ys y1), (Str.ofString "months", .int ms m1)] m)) => ret l v1 v2 v3 v4 v5 v6 h' tk' (e0 ▸ F')
  clear e0 F
  dsimp only [ten6, lit]
  k_steps
  all_goals (exact ret _ _ _ _ _ _ _ _ _ (by k_asm) (by walk_at "my:n"))
theorem el7 {ys ms dd hh mm ss : Int} (z0 : 28 ≤ lawLen ys ms ∧ lawLen ys ms ≤ 31) : ElSpec ten7 ys ms dd hh mm ss ms dd (-1) mm ss := by
  intro w mean mg mb dp un A₀ h₀ L m news s Q fa cd fl u1 u2 u3 u4 u5 u6 y1 m1 B F X N T hd hu l_fields l_years l_months hfl ret
  have d0 : KtsDicts (([] : List Env).filterMap (·.frame)) h₀ := ktsDicts_nil
  have e0 : fo [(Str.ofString "fields", .ref fl), (Str.ofString "years", .int ys y1), (Str.ofString "months", .int ms m1)] m = m := fo_cons l_fields (fo_cons l_years (fo_cons l_months fo_nil))
  have F2 : Fr h₀ L s.heap (fo [(Str.ofString "fields", .ref fl), (Str.ofString "years", .int ys y1), (Str.ofString "months", .int ms m1)] m) := e0.symm ▸ F
  replace ret := fun l v1 v2 v3 v4 v5 v6 h' tk' (F' : Fr h₀ L h' (fo [(Str.ofString "fields", .ref fl), (Str.ofString "years", .int ys y1), (Str.ofString "months", .int ms m1)] m)) => ret l v1 v2 v3 v4 v5 v6 h' tk' (e0 ▸ F')
  clear e0 F
  dsimp only [ten7, lit]
  k_steps
  all_goals (exact ret _ _ _ _ _ _ _ _ _ (by k_asm) (by walk_at "my:n"))
theorem el8 {ys ms dd hh mm ss : Int} (z0 : 28 ≤ lawLen ys ms ∧ lawLen ys ms ≤ 31) : ElSpec ten8 ys ms dd hh mm ss ms dd hh (-1) ss := by
  intro w mean mg mb dp un A₀ h₀ L m news s Q fa cd fl u1 u2 u3 u4 u5 u6 y1 m1 B F X N T hd hu l_fields l_years l_months hfl ret
  have d0 : KtsDicts (([] : List Env).filterMap (·.frame)) h₀ := ktsDicts_nil
  have e0 : fo [(Str.ofString "fields", .ref fl), (Str.ofString "years", .int ys y1), (Str.ofString "months", .int ms m1)] m = m := fo_cons l_fields (fo_cons l_years (fo_cons l_months fo_nil))
  have F2 : Fr h₀ L s.heap (fo [(Str.ofString "fields", .ref fl), (Str.ofString "years", .int ys y1), (Str.ofString "months", .int ms m1)] m) := e0.symm ▸ F
  replace ret := fun l v1 v2 v3 v4 v5 v6 h' tk' (F' : Fr h₀ L h' (fo [(Str.ofString "fields", .ref fl), (Str.ofString "years", .int ys y1), (Str.ofString "months", .int ms m1)] m)) => ret l v1 v2 v3 v4 v5 v6 h' tk' (e0 ▸ F')
  clear e0 F
  dsimp only [ten8, lit]
  k_steps
  all_goals (exact ret _ _ _ _ _ _ _ _ _ (by k_asm) (by walk_at "my:n"))
theorem el9 {ys ms dd hh mm ss : Int} (z0 : 28 ≤ lawLen ys ms ∧ lawLen ys ms ≤ 31) : ElSpec ten9 ys ms dd hh mm ss ms dd hh mm (-1) := by
  intro w mean mg mb dp un A₀ h₀ L m news s Q fa cd fl u1 u2 u3 u4 u5 u6 y1 m1 B F X N T hd hu l_fields l_years l_months hfl ret
  have d0 : KtsDicts (([] : List Env).filterMap (·.frame)) h₀ := ktsDicts_nil
  have e0 : fo [(Str.ofString "fields", .ref fl), (Str.ofString "years", .int ys y1), (Str.ofString "months", .int ms m1)] m = m := fo_cons l_fields (fo_cons l_years (fo_cons l_months fo_nil))
  have F2 : Fr h₀ L s.heap (fo [(Str.ofString "fields", .ref fl), (Str.ofString "years", .int ys y1), (Str.ofString "months", .int ms m1)] m) := e0.symm ▸ F
  replace ret := fun l v1 v2 v3 v4 v5 v6 h' tk' (F' : Fr h₀ L h' (fo [(Str.ofString "fields", .ref fl), (Str.ofString "years", .int ys y1), (Str.ofString "months", .int ms m1)] m)) => ret l v1 v2 v3 v4 v5 v6 h' tk' (e0 ▸ F')
  clear e0 F
  dsimp only [ten9, lit]
  k_steps
  all_goals (exact ret _ _ _ _ _ _ _ _ _ (by k_asm) (by walk_at "my:n"))
theorem lay_ten : True := by
  k_with "eval BinOp" => (first | (k_here; (with_reducible show wpAny _ _ (eval ten0 _) _ _ _); k_dflt (refine' (el0 (by assumption)) (by k_asm) (by k_asm) (by k_asm) (by k_asm) (by k_asm) (by assumption) (by assumption) (by exact rfl) (by exact rfl) (by exact rfl) (by k_mem) ?_; k_whole); intro l9 v91 v92 v93 v94 v95 v96 h9 tk9 F9 N9; (try dsimp only); (try k_fold)) | fail)
  k_with "eval BinOp" => (first | (k_here; (with_reducible show wpAny _ _ (eval ten1 _) _ _ _); k_dflt (refine' (el1 (by assumption)) (by k_asm) (by k_asm) (by k_asm) (by k_asm) (by k_asm) (by assumption) (by assumption) (by exact rfl) (by exact rfl) (by exact rfl) (by k_mem) ?_; k_whole); intro l9 v91 v92 v93 v94 v95 v96 h9 tk9 F9 N9; (try dsimp only); (try k_fold)) | fail)
  k_with "eval BinOp" => (first | (k_here; (with_reducible show wpAny _ _ (eval ten2 _) _ _ _); k_dflt (refine' (el2 (by assumption)) (by k_asm) (by k_asm) (by k_asm) (by k_asm) (by k_asm) (by assumption) (by assumption) (by exact rfl) (by exact rfl) (by exact rfl) (by k_mem) ?_; k_whole); intro l9 v91 v92 v93 v94 v95 v96 h9 tk9 F9 N9; (try dsimp only); (try k_fold)) | fail)
  k_with "eval BinOp" => (first | (k_here; (with_reducible show wpAny _ _ (eval ten3 _) _ _ _); k_dflt (refine' (el3 (by assumption)) (by k_asm) (by k_asm) (by k_asm) (by k_asm) (by k_asm) (by assumption) (by assumption) (by exact rfl) (by exact rfl) (by exact rfl) (by k_mem) ?_; k_whole); intro l9 v91 v92 v93 v94 v95 v96 h9 tk9 F9 N9; (try dsimp only); (try k_fold)) | fail)
  k_with "eval BinOp" => (first | (k_here; (with_reducible show wpAny _ _ (eval ten4 _) _ _ _); k_dflt (refine' (el4 (by assumption)) (by k_asm) (by k_asm) (by k_asm) (by k_asm) (by k_asm) (by assumption) (by assumption) (by exact rfl) (by exact rfl) (by exact rfl) (by k_mem) ?_; k_whole); intro l9 v91 v92 v93 v94 v95 v96 h9 tk9 F9 N9; (try dsimp only); (try k_fold)) | fail)
  k_with "eval BinOp" => (first | (k_here; (with_reducible show wpAny _ _ (eval ten5 _) _ _ _); k_dflt (refine' (el5 (by assumption)) (by k_asm) (by k_asm) (by k_asm) (by k_asm) (by k_asm) (by assumption) (by assumption) (by exact rfl) (by exact rfl) (by exact rfl) (by k_mem) ?_; k_whole); intro l9 v91 v92 v93 v94 v95 v96 h9 tk9 F9 N9; (try dsimp only); (try k_fold)) | fail)
  k_with "eval BinOp" => (first | (k_here; (with_reducible show wpAny _ _ (eval ten6 _) _ _ _); k_dflt (refine' (el6 (by assumption)) (by k_asm) (by k_asm) (by k_asm) (by k_asm) (by k_asm) (by assumption) (by assumption) (by exact rfl) (by exact rfl) (by exact rfl) (by k_mem) ?_; k_whole); intro l9 v91 v92 v93 v94 v95 v96 h9 tk9 F9 N9; (try dsimp only); (try k_fold)) | fail)
  k_with "eval BinOp" => (first | (k_here; (with_reducible show wpAny _ _ (eval ten7 _) _ _ _); k_dflt (refine' (el7 (by assumption)) (by k_asm) (by k_asm) (by k_asm) (by k_asm) (by k_asm) (by assumption) (by assumption) (by exact rfl) (by exact rfl) (by exact rfl) (by k_mem) ?_; k_whole); intro l9 v91 v92 v93 v94 v95 v96 h9 tk9 F9 N9; (try dsimp only); (try k_fold)) | fail)
  k_with "eval BinOp" => (first | (k_here; (with_reducible show wpAny _ _ (eval ten8 _) _ _ _); k_dflt (refine' (el8 (by assumption)) (by k_asm) (by k_asm) (by k_asm) (by k_asm) (by k_asm) (by assumption) (by assumption) (by exact rfl) (by exact rfl) (by exact rfl) (by k_mem) ?_; k_whole); intro l9 v91 v92 v93 v94 v95 v96 h9 tk9 F9 N9; (try dsimp only); (try k_fold)) | fail)
  k_with "eval BinOp" => (first | (k_here; (with_reducible show wpAny _ _ (eval ten9 _) _ _ _); k_dflt (refine' (el9 (by assumption)) (by k_asm) (by k_asm) (by k_asm) (by k_asm) (by k_asm) (by assumption) (by assumption) (by exact rfl) (by exact rfl) (by exact rfl) (by k_mem) ?_; k_whole); intro l9 v91 v92 v93 v94 v95 v96 h9 tk9 F9 N9; (try dsimp only); (try k_fold)) | fail)
  trivial
theorem g14_ten {QF : Flow → Shared → Prop} {fa cd : Addr} {fl : Addr} {ys ms dd hh mm ss wh : Int} {u1 u2 u3 u4 u5 u6 y1 m1 tw : Tok} (hw : 0 ≤ wh ∧ wh < 10) (hv : ((1980 ≤ ys ∧ ys ≤ 2107) ∧ (1 ≤ ms ∧ ms ≤ 12)) ∧ ((1 ≤ dd ∧ dd ≤ lawLen ys ms) ∧ 0 ≤ hh ∧ hh ≤ 23 ∧ 0 ≤ mm ∧ mm ≤ 59 ∧ 0 ≤ ss ∧ ss ≤ 59)) (hfl : (fl, W.listOf #[.int ys u1, .int ms u2, .int dd u3, .int hh u4, .int mm u5, .int ss u6] 0) ∈ news) (l_fields : m (Str.ofString "fields") = some (.ref fl)) (l_years : m (Str.ofString "years") = some (.int ys y1)) (l_months : m (Str.ofString "months") = some (.int ms m1)) (l_which : m (Str.ofString "which") = some (.int wh tw)) (B : Below A₀ h₀ [] h₀) (F : Fr h₀ L s.heap m) (X : (KK w.params).In h₀) (N : News h₀ L s.heap news) (T : Top VW LO mean mg mb h₀) (hd : dp + 80 < recursionLimit) (hu : un + 800 < cLine)
    (ret : ∀ m' h' tk' f2 ms2 dd2 hh2 mm2 ss2 v1 v2 v3 v4 v5 v6, BadSix ys ms2 dd2 hh2 mm2 ss2 → Keep [Str.ofString "fields"] m m' → m' (Str.ofString "fields") = some (.ref f2) → Fr h₀ L h' m' → News h₀ L h' ((f2, W.listOf #[.int ys v1, .int ms2 v2, .int dd2 v3, .int hh2 v4, .int mm2 v5, .int ss2 v6] 0) :: news) → QF .next { s with heap := h', toks := tk' }) :
    wpAny (model PR w) (ktrTop dp un (some []) (Str.ofString "law") f26S L fa (.ref cd) [(Str.ofString "start", L + 1)] []) (exec b22 (envX (Str.ofString "law") f26S L fa (.ref cd) [(Str.ofString "start", L + 1)])) QF (fun _ _ => False) s := by
  have d0 : KtsDicts (([] : List Env).filterMap (·.frame)) h₀ := ktsDicts_nil
  have e0 : fo [(Str.ofString "fields", .ref fl), (Str.ofString "years", .int ys y1), (Str.ofString "months", .int ms m1), (Str.ofString "which", .int wh tw)] m = m := fo_cons (by assumption) (fo_cons (by assumption) (fo_cons (by assumption) (fo_cons (by assumption) fo_nil)))
  have k0 : Keep [Str.ofString "fields"] m (fo [(Str.ofString "fields", .ref fl), (Str.ofString "years", .int ys y1), (Str.ofString "months", .int ms m1), (Str.ofString "which", .int wh tw)] m) := Keep.of_eq e0
  replace F := e0.symm ▸ F
  clear e0
  have z0 := lawLen_range ys ms
  have hw' : Ten wh := ten_of hw
  dsimp only [b22, lit]
  k_steps
  all_goals (try k_data)
  all_goals (refine' ret _ _ _ _ _ _ _ _ _ _ _ _ _ _ _ ?g0 ?k ?q0 ?f ?n; (case f => walk_at "my:fr"); (case q0 => exact rfl); (case n => walk_at "my:ne"); (case k => walk_at "my:keeps"); (case g0 => refine ⟨hv.1.1, ?_⟩; first | exact .inl (by omega) | exact .inr (.inl ⟨hv.1.2, by omega⟩) | exact .inr (.inr ⟨⟨hv.1.2, hv.2.1⟩, by omega⟩)))
theorem ba_end1 : "bytearray.__buffer__".endsWith ("." ++ "__buffer__") = true := by decide +kernel
theorem ba_end2 : "bytearray.__release_buffer__".endsWith ("." ++ "__release_buffer__") = true := by decide +kernel
theorem ba_drop1 : "bytearray.__buffer__".dropRight ("__buffer__".length + 1) = "bytearray" := by decide +kernel
theorem ba_drop2 : "bytearray.__release_buffer__".dropRight ("__release_buffer__".length + 1) = "bytearray" := by decide +kernel
theorem by_end1 : "bytes.__buffer__".endsWith ("." ++ "__buffer__") = true := by decide +kernel
theorem by_drop1 : "bytes.__buffer__".dropRight ("__buffer__".length + 1) = "bytes" := by decide +kernel
theorem ba_sub : isSubtype (.type "bytearray") (.type "bytearray") = pure true := by rw [isSubtype_type]; kernel_rfl
theorem by_sub : isSubtype (.type "bytes") (.type "bytes") = pure true := by rw [isSubtype_type]; kernel_rfl
theorem ba_lk_buffer : typeLookup (.type "bytearray") "__buffer__" = pure (some (.builtin "bytearray.__buffer__")) := by rw [typeLookup_type, builtinLookup_eq_fast]; kernel_rfl
theorem ba_lk_release : typeLookup (.type "bytearray") "__release_buffer__" = pure (some (.builtin "bytearray.__release_buffer__")) := by rw [typeLookup_type, builtinLookup_eq_fast]; kernel_rfl
theorem by_lk_buffer : typeLookup (.type "bytes") "__buffer__" = pure (some (.builtin "bytes.__buffer__")) := by rw [typeLookup_type, builtinLookup_eq_fast]; kernel_rfl
theorem by_lk_release : typeLookup (.type "bytes") "__release_buffer__" = pure none := by rw [typeLookup_type, builtinLookup_eq_fast]; kernel_rfl
theorem ba_lk_bytes : typeLookup (.type "bytearray") "__bytes__" = pure none := by rw [typeLookup_type, builtinLookup_eq_fast]; kernel_rfl
theorem ba_lk_index : typeLookup (.type "bytearray") "__index__" = pure none := by rw [typeLookup_type, builtinLookup_eq_fast]; kernel_rfl
theorem by_lk_index : typeLookup (.type "bytes") "__index__" = pure none := by rw [typeLookup_type, builtinLookup_eq_fast]; kernel_rfl
noncomputable abbrev baObj (b : Array UInt8) (n : Nat) : Obj := { cls := .type "bytearray", data := .bytearray b n }
section
variable {prog : Program} {w : World} {A : Around} {E : Value → Shared → Prop} {s : Shared}
theorem slot_own {v : Value} {T : String} {name : String} {id : String} {Q : Bool → Shared → Prop} (hT : s.TypeIs v T) (hl : typeLookup (.type T) (name : Str) = pure (some (.builtin id)))
    (he : id.endsWith ("." ++ name) = true) (hd : id.dropRight (name.length + 1) = T) (hs : isSubtype (.type T) (.type T) = pure true) (h : Q true s) : wpAny (model prog w) A (Builtin.Bytes.slotIsOwn v name) Q E s := by
  unfold Builtin.Bytes.slotIsOwn
  refine wpAny_bind (wpAny_specialOf hT hl ?_)
  dsimp only
  rw [he]
  refine bm_if_false rfl ?_
  rw [hd]
  exact wpAny_isInstance hT hs h
theorem slot_own_none {v : Value} {T : String} {name : String} {Q : Bool → Shared → Prop} (hT : s.TypeIs v T) (hl : typeLookup (.type T) (name : Str) = pure none) (h : Q true s) : wpAny (model prog w) A (Builtin.Bytes.slotIsOwn v name) Q E s := by
  unfold Builtin.Bytes.slotIsOwn
  refine wpAny_bind (wpAny_specialOf hT hl ?_)
  exact wpAny_pure h
theorem ba_type {S : Addr} {b : Array UInt8} {n : Nat} (ho : s.heap.get? S = some (baObj b n)) : s.TypeIs (.ref S) "bytearray" := ⟨_, ho, rfl⟩
theorem ba_payload {S : Addr} {b : Array UInt8} {n : Nat} {Q : Array UInt8 → Shared → Prop} (ho : s.heap.get? S = some (baObj b n)) (h : Q b s) : wpAny (model prog w) A (Builtin.Bytes.payload (.ref S)) Q E s := by
  unfold Builtin.Bytes.payload Builtin.Bytes.payload?
  exact wpAny_bind (wpAny_bind (wpAny_load ho (wpAny_pure (wpAny_pure h))))
theorem ba_buffer {id : String} {S : Addr} {b : Array UInt8} {n : Nat} {Q : Option (Array UInt8) → Shared → Prop} (ho : s.heap.get? S = some (baObj b n)) (h : Q (some b) s) :
    wpAny (model prog w) A (Builtin.Bytes.buffer? id (.ref S) true) Q E s := by
  have hT := ba_type ho
  unfold Builtin.Bytes.buffer?
  refine wpAny_bind (wpAny_specialOf hT ba_lk_buffer ?_)
  dsimp only
  refine wpAny_bind (slot_own hT ba_lk_buffer ba_end1 ba_drop1 ba_sub ?_)
  refine bm_if_false rfl ?_
  refine wpAny_bind (wpAny_specialOf hT ba_lk_buffer ?_)
  try dsimp only
  unfold Builtin.Bytes.ownRelease
  refine wpAny_bind (wpAny_bind (slot_own hT ba_lk_release ba_end2 ba_drop2 ba_sub ?_))
  refine wpAny_pure ?_
  refine bm_if_false rfl ?_
  exact wpAny_bind (ba_payload ho (wpAny_pure h))
theorem by_buffer {id : String} {b : Array UInt8} {t : Tok} {Q : Option (Array UInt8) → Shared → Prop} (h : Q (some b) s) :
    wpAny (model prog w) A (Builtin.Bytes.buffer? id (.bytes b t) true) Q E s := by
  have hT : s.TypeIs (.bytes b t) "bytes" := typeIs_bytes _ _ _
  unfold Builtin.Bytes.buffer?
  refine wpAny_bind (wpAny_specialOf hT by_lk_buffer ?_)
  dsimp only
  refine wpAny_bind (slot_own hT by_lk_buffer by_end1 by_drop1 by_sub ?_)
  refine bm_if_false rfl ?_
  refine wpAny_bind (wpAny_specialOf hT by_lk_buffer ?_)
  try dsimp only
  unfold Builtin.Bytes.ownRelease
  refine wpAny_bind (wpAny_bind (slot_own_none hT by_lk_release ?_))
  refine wpAny_pure ?_
  refine bm_if_false rfl ?_
  unfold Builtin.Bytes.payload Builtin.Bytes.payload?
  exact wpAny_bind (wpAny_bind (wpAny_pure (wpAny_pure (wpAny_pure h))))
theorem ba_isStr {S : Addr} {b : Array UInt8} {n : Nat} {Q : Option Str → Shared → Prop} (ho : s.heap.get? S = some (baObj b n)) (h : Q none s) : wpAny (model prog w) A (asStr? (.ref S)) Q E s := by
  unfold asStr?
  exact wpAny_bind (wpAny_load ho (wpAny_pure h))
/-- bytes(bytearray) -/
theorem ba_bytes_new {S : Addr} {b : Array UInt8} {n : Nat} {Q : Value → Shared → Prop} (ho : s.heap.get? S = some (baObj b n)) (hz : b.size ≤ sizeLine)
    (hQ : Q (.bytes b s.toks) { s with toks := s.toks + 1 }) :
    codeAny (model prog w) A (.call (.builtin "bytes.__new__") ⟨[.type "bytes", .ref S], []⟩) (wants Q E) s := by
  have hT := ba_type ho
  refine codeAny_of_tree ?_
  show wpAny _ A.in1 (do checkBuiltinCall "bytes.__new__" ⟨[.type "bytes", .ref S], []⟩; again (.builtin "bytes.__new__" ⟨[.type "bytes", .ref S], []⟩)) _ _ s
  refine wpAny_bind (wpAny_of_eq (F.bm_newCall _) (wpAny_pure ⟨plainId_quiet F.bm_plain _, codeAny_builtin F.bm_entry ?_⟩))
  rw [Around.under_plainId F.bm_plain _]
  unfold Builtin.«bytes.__new__»
  refine wpAny_bind (wpAny_of_eq (a := true) rfl ?_)
  refine bm_if_false rfl ?_
  refine wpAny_bind (wpAny_of_eq F.bm_sub ?_)
  refine bm_if_false rfl ?_
  refine wpAny_bind (wpAny_of_eq (F.bm_bind _) ?_)
  refine wpAny_bind (wpAny_of_eq (a := ()) rfl ?_)
  refine wpAny_bind (wpAny_of_eq (a := ()) rfl ?_)
  refine bm_if_false rfl ?_
  refine wpAny_bind (wpAny_specialOf hT ba_lk_bytes ?_)
  refine wpAny_bind (wpAny_bind (ba_isStr ho (wpAny_pure ?_)))
  refine bm_if_false rfl ?_
  refine wpAny_bind (wpAny_specialOf hT ba_lk_index ?_)
  refine bm_if_true rfl ?_
  first
    | show wpAny _ _ (Builtin.Bytes.buffer? "bytes.__new__" (.ref S) true >>= _) _ _ _
    | (refine wpAny_bind ?_; show wpAny _ _ (Builtin.Bytes.buffer? "bytes.__new__" (.ref S) true >>= _) _ _ _)
  refine wpAny_bind (ba_buffer ho ?_)
  refine wpAny_bind (wpAny_rule ?_)
  refine wpAny_bind (wpAny_mkBytes ?_ hz)
  show wpAny _ _ (if (Value.type "bytes" == Value.type "bytes") = true then _ else _) _ _ _
  refine bm_if_true (by decide) ?_
  first
    | exact wpAny_pure hQ
    | exact wpAny_bind (wpAny_pure (wpAny_pure hQ))
theorem call_bytes_ba {S : Addr} {b : Array UInt8} {n : Nat} {Q : Value → Shared → Prop} (ho : s.heap.get? S = some (baObj b n)) (hz : b.size ≤ sizeLine)
    (hQ : Q (.bytes b s.toks) { s with toks := s.toks + 1 }) : wpAny (model prog w) A (call (.type "bytes") [.ref S]) Q E s := by
  refine callType_codes (Q₁ := fun obj s₁ => s₁.TypeIs obj "bytes" ∧ Q obj s₁) F.bm_called (F.bm_typeCall _) F.entry_object_init
    (ba_bytes_new ho hz ⟨typeIs_bytes _ _ _, hQ⟩) fun obj s₁ h₁ => ?_
  exact ⟨h₁.1, F.args_object_init_2 obj _, object_init_meets F.bm_called.init.lookup F.bm_called.made (by decide) prog w A.in1 _ s₁ ⟨h₁.1, rfl, h₁.2⟩⟩
end
theorem owner_ba : Manifest.owners.lookup (String.ofList ['y', 'a', 'r', 'r', 'a', 'e', 't', 'y', 'b'].reverse) = some Manifest.sig_bytearray := by kernel_rfl
theorem slot_ba_len : Slot "bytearray" "__len__" "bytearray.__len__" :=
  .of (owner := "bytearray") (n := "__len__") (by rw [typeLookup_type, builtinLookup_eq_fast]; kernel_rfl) (by decide +kernel) (by decide +kernel) (by decide +kernel)
    (by first | exact .inl (by decide +kernel) | exact .inr (by decide +kernel)) (by rw [isSubtype_type]; kernel_rfl)
theorem entry_ba_len : entryFor table "bytearray.__len__" = some Builtin.«bytearray.__len__» := entryFor_of_tree (by kernel_rfl)
theorem args_ba_len (a : Value) : argsOk "bytearray.__len__" ⟨[a], []⟩ := by
  unfold argsOk; rw [signature?_of (id := "bytearray.__len__") (n := ['_', '_', 'n', 'e', 'l', '_', '_']) (o := ['y', 'a', 'r', 'r', 'a', 'e', 't', 'y', 'b']) (by kernel_rfl) owner_ba]; kernel_rfl
theorem slot_ba_get : Slot "bytearray" "__getitem__" "bytearray.__getitem__" :=
  .of (owner := "bytearray") (n := "__getitem__") (by rw [typeLookup_type, builtinLookup_eq_fast]; kernel_rfl) (by decide +kernel) (by decide +kernel) (by decide +kernel)
    (by first | exact .inl (by decide +kernel) | exact .inr (by decide +kernel)) (by rw [isSubtype_type]; kernel_rfl)
theorem entry_ba_get : entryFor table "bytearray.__getitem__" = some Builtin.«bytearray.__getitem__» := entryFor_of_tree (by kernel_rfl)
theorem args_ba_get (a b : Value) : argsOk "bytearray.__getitem__" ⟨[a, b], []⟩ := by
  unfold argsOk; rw [signature?_of (id := "bytearray.__getitem__") (n := ['_', '_', 'm', 'e', 't', 'i', 't', 'e', 'g', '_', '_']) (o := ['y', 'a', 'r', 'r', 'a', 'e', 't', 'y', 'b']) (by kernel_rfl) owner_ba]; kernel_rfl
section
variable {prog : Program} {w : World} {A : Around} {E : Value → Shared → Prop} {s : Shared}
theorem ba_get_meets {S : Addr} {b : Array UInt8} {n : Nat} {k : Int} {u : Tok} {c : UInt8} (hr : Builtin.Bytes.fitsIndex k = true) (hc : (seqIndex? k b.size).bind (b[·]?) = some c) :
    Meets (Builtin.«bytearray.__getitem__» ⟨[.ref S, .int k u], []⟩) (fun _ R s => s.heap.get? S = some (baObj b n) ∧ R (.ok (.ret (.int c.toNat s.toks))) { s with toks := s.toks + 1 }) := by
  rintro prog w A R s ⟨ho, hR⟩
  show wpAny _ _ (Builtin.Bytes.subscript? (.int k u) >>= fun r => _) _ _ s
  refine wpAny_bind ?_
  unfold Builtin.Bytes.subscript?
  refine wpAny_bind (wpAny_specialOf (typeIs_int s k u) F.slot_int_index.lookup ?_)
  show wpAny _ _ (if (!Builtin.Bytes.fitsIndex k) = true then _ else pure (some k)) _ _ s
  rw [hr]
  refine wpAny_pure ?_
  refine wpAny_bind (ba_payload ho ?_)
  show wpAny _ _ (match (seqIndex? k b.size).bind (b[·]?) with | some x => _ | none => _) _ _ s
  rw [hc]
  exact wpAny_bind (wpAny_mkInt (wpAny_pure hR))
theorem ba_getItem {S : Addr} {b : Array UInt8} {n : Nat} {k : Int} {u : Tok} {c : UInt8} {Q : Value → Shared → Prop} (ho : s.heap.get? S = some (baObj b n)) (hr : Builtin.Bytes.fitsIndex k = true) (hc : (seqIndex? k b.size).bind (b[·]?) = some c)
    (h : Q (.int c.toNat s.toks) { s with toks := s.toks + 1 }) : wpAny (model prog w) A (getItem (.ref S) (.int k u)) Q E s :=
  getItem_meets (ba_type ho) (by decide) slot_ba_get entry_ba_get (args_ba_get _ _) (ba_get_meets hr hc) ⟨ho, h⟩
theorem ba_item {value slice : PySem.Expr} {S : Addr} {b : Array UInt8} {n : Nat} {k : Int} {u : Tok} {c : UInt8} {Q : Value → Shared → Prop} (ho : s.heap.get? S = some (baObj b n)) (hr : Builtin.Bytes.fitsIndex k = true) (hc : (seqIndex? k b.size).bind (b[·]?) = some c)
    (h : Q (.int c.toNat s.toks) { s with toks := s.toks + 1 }) (hs : subscripted slice false (.ref S) (.int k u) = operate [.ref S, .int k u] (getItem (.ref S) (.int k u)) := by with_unfolding_all rfl) :
    wpAny (model prog w) A (subscriptTail value slice (.ref S) (.int k u)) Q E s := tail_any (ba_type ho) slot_ba_get.lookup (ba_getItem ho hr hc h) hs
theorem ba_len {S : Addr} {b : Array UInt8} {n : Nat} {Q : Value → Shared → Prop} (ho : s.heap.get? S = some (baObj b n)) (hz : b.size < 2 ^ 40)
    (h : Q (.int b.size (s.toks + 1)) { s with toks := s.toks + 1 + 1 }) : wpAny (model prog w) A (call (.builtin "len") [.ref S]) Q E s := by
  refine Calls.call_function_entry kind_len plain_len entry_len (args_len1 _) ?_
  unfold Builtin.«len»
  refine wpAny_bind (m := oneArg "len" _) (wpAny_pure ?_)
  refine wpAny_bind (m := callSpecial? (.ref S) (Str.ofString "__len__")) (wpAny_callSpecial?_slot (name := Str.ofString "__len__") (ba_type ho) slot_ba_len
    (wpAny_call_entry slot_ba_len (ba_type ho) entry_ba_len ?_ (args_ba_len _)))
  show wpAny _ _ (do retInt (← Builtin.Bytes.payload (.ref S)).size) _ _ s
  refine wpAny_bind (ba_payload ho (wpAny_bind (wpAny_mkInt (wpAny_pure ⟨_, rfl, ?_⟩))))
  refine wpAny_bind (wpAny_holding (wpAny_pure ?_))
  refine wpAny_bind (wpAny_letGo ?_)
  show wpAny _ _ (if ((b.size : Nat) : Int) < 0 then _ else _) _ _ _
  rw [if_neg (by omega)]
  show wpAny _ _ (if ((b.size : Nat) : Int) ≥ 2 ^ 63 then _ else _) _ _ _
  rw [if_neg (by omega)]
  exact wpAny_bind (wpAny_mkInt (wpAny_pure ⟨_, rfl, h⟩))
end
theorem noI_bytes_add : typeLookup (.type "bytes") (dunderI "add") = pure none := by rw [typeLookup_type, builtinLookup_eq_fast]; kernel_rfl
section
variable {prog : Program} {w : World} {A : Around} {E : Value → Shared → Prop} {s : Shared} {b c : Array UInt8} {t u : Tok} {Q : Value → Shared → Prop} {ks ls : List Int}
theorem iadd_bytes (hsz : b.size + c.size ≤ 16777216) (h : ∀ t' k, Q (.bytes (b ++ c) t') { s with toks := k }) : wpAny (model prog w) A (inplaceOp .Add (.bytes b t) (.bytes c u)) Q E s := by
  refine iconcat_gives (typeIs_bytes s b t) (typeIs_bytes s c u) noI_bytes_add KBy.noFill_bytes_add KBy.seq_bytes_add FB.slot_bytes_add FB.entry_bytes_add (FB.args_bytes_add_2 _ _) (KBy.gives_bytes_add (KBy.tooLong_not hsz)) ?_
  by_cases hb : b.isEmpty = true
  · rw [if_pos hb]
    have e : b = #[] := Array.isEmpty_iff.1 hb
    have h' := h u s.toks
    rw [e, Array.empty_append] at h'
    exact h'
  · rw [if_neg hb]
    by_cases hc : c.isEmpty = true
    · rw [if_pos hc]
      have e : c = #[] := Array.isEmpty_iff.1 hc
      have h' := h t s.toks
      rw [e, Array.append_empty] at h'
      exact h'
    · rw [if_neg hc]
      refine ⟨?_, h _ _⟩
      have h1 := sizeLine_eq
      simp only [Array.size_append]
      omega
theorem iadd_K (hb : KBw.bInts b = ks) (hc : KBw.bInts c = ls) (hsz : ks.length + ls.length ≤ 16777216) (h : ∀ t' k, KBw.bInts (b ++ c) = ks ++ ls → Q (.bytes (b ++ c) t') { s with toks := k }) : wpAny (model prog w) A (inplaceOp .Add (.bytes b t) (.bytes c u)) Q E s :=
  iadd_bytes (by rw [← KBw.ints_length b, ← KBw.ints_length c, hb, hc]; exact hsz) fun t' k => h t' k (KBw.ints_app hb hc)
end
theorem ints_nil : KBw.bInts #[] = [] := rfl
theorem layj_35 : True := by
  k_with "call type:bytes" => (first | (k_here; (with_reducible show wpAny _ _ (call (Value.type "bytes") [Value.ref _]) _ _ _); k_dflt (refine' call_bytes_ba (by exact News.get (by k_asm) (by k_mem)) (by first | assumption | (simp only [sizeLine] at *; omega) | decide) ?_; k_whole)) | fail)
  k_with "call builtin:len" => (first | (k_here; (with_reducible show wpAny _ _ (call (Value.builtin "len") [Value.ref _]) _ _ _); k_dflt (refine' ba_len (by exact News.get (by k_asm) (by k_mem)) (by first | omega | decide) ?_; k_whole)) | fail)
  k_with "my:baitem" => (first | (k_here; (with_reducible show wpAny _ _ (subscriptTail _ _ (Value.ref _) (Value.int _ _)) _ _ _); k_dflt (refine' ba_item (by exact News.get (by k_asm) (by k_mem)) (by decide) (by exact rfl) ?_ (by with_unfolding_all rfl); k_whole)) | fail)
  k_with "subscriptTail" => (first | (walk_at "my:baitem") | fail)
  k_with "subscriptTail Name Constant ref int" => (first | (walk_at "my:baitem") | fail)
  k_with "my:ints" => (first | (first | exact ints_nil | kba_ints | exact KBw.ints_list _) | fail)
  k_with "inplaceOp Add bytes bytes" => (first | (k_here; (with_reducible show wpAny _ _ (inplaceOp Operator.Add (Value.bytes _ _) (Value.bytes _ _)) _ _ _); (refine iadd_K (by walk_at "my:ints") (by walk_at "my:ints") (by kba_size) ?_); intro _ _ kbaApp) | fail)
  trivial
theorem lay_C02r_1 : True := by
  k_with "pyIter ref" => (first | (k_here; (with_reducible show wpAny _ _ (pyIter (Value.ref _)) (fun it s₂ => LoopAtV _ _ _ _ _ _ _ _ _ it s₂) _ _); (rename Fr _ _ _ _ => lF'); (with_unfolding_all refine' iter_listUnr (by rfl) lF' (by assumption) (List.Mem.head _) (by rfl) (by rfl) ?_); clear lF'; intro i' l1) | fail)
  k_with "UnrEnd" => (first | (refine UnrEnd.intro (by assumption) (by assumption) _ (fun p hp => hp) (fun p hp => Nat.ne_of_lt ((by assumption : ∀ p ∈ _, p.1 < _) p hp)) ⟨List.Mem.head _, ?_⟩) | fail)
  trivial
theorem u8_of {n : Int} (h0 : 0 ≤ n) (h1 : n < 256) : ((n.toNat.toUInt8).toNat : Int) = n := by
  have e : n.toNat.toUInt8.toNat = n.toNat % 256 := rfl
  rw [e]; omega
noncomputable abbrev e8Dict (P : Params) (v1 v2 v3 v4 : Tok) (ba : Addr) : Obj := dictOf [⟨PyData.keyHash P (Str.ofString "name"), .str (Str.ofString "name") v1, .ref ba⟩, ⟨PyData.keyHash P (Str.ofString "encoding"), .str (Str.ofString "encoding") v2, .str (Str.ofString "latin-1") v4⟩, ⟨PyData.keyHash P (Str.ofString "initialized"), .str (Str.ofString "initialized") v3, .bool true⟩] 3
theorem m_asbytes {R : Result → Shared → Prop} {xr dr e8 d8 ba dl : Addr} {b : Array UInt8} {n : Nat} {ten cT cD aD wT wD : Int} {u1 u2 u3 u4 u5 u6 u7 u8 u9 u10 u11 u12 u13 u14 u15 u16 u17 u18 r1 r2 r3 r4 r5 r6 r7 r8 r9 r10 r11 r12 v1 v2 v3 v4 : Tok} (B : Below A₀ base outer h₀) (F : Fr h₀ L s.heap m) (X : (KK w.params).In h₀) (N : News h₀ L s.heap news) (T : Top VW LO mean mg mb h₀) (hk : cs.kind = .function) (hd : dp + 16 < recursionLimit) (hu : un + 120 < cLine) (hx : (xr, instObj 605 dr) ∈ news) (hdx : (dr, recDict w.params u1 u2 u3 u4 u5 u6 u7 u8 u9 u10 u11 u12 u13 u14 u15 u16 u17 u18 e8 dl ten cT cD aD wT wD r1 r2 r3 r4 r5 r6 r7 r8 r9 r10 r11 r12) ∈ news) (h8 : (e8, instObj 315 d8) ∈ news) (hd8 : (d8, e8Dict w.params v1 v2 v3 v4 ba) ∈ news) (hba : (ba, baObj b n) ∈ news) (hb : KBw.bInts b = [65, 32, 32, 32, 32, 32, 32, 32, 32, 32, 32]) (hbz : b.size = 11) (hv : (0 ≤ ten ∧ ten < 200) ∧ (0 ≤ cT ∧ cT < 65536) ∧ (0 ≤ cD ∧ cD < 65536) ∧ (0 ≤ aD ∧ aD < 65536) ∧ (0 ≤ wT ∧ wT < 65536) ∧ (0 ≤ wD ∧ wD < 65536))
    (ret : ∀ bs t h' tk', KBw.bInts bs = [65, 32, 32, 32, 32, 32, 32, 32, 32, 32, 32, 32, 0, ten, cT % 256, cT / 256 % 256, cD % 256, cD / 256 % 256, aD % 256, aD / 256 % 256, 0, 0, wT % 256, wT / 256 % 256, wD % 256, wD / 256 % 256, 0, 0, 0, 0, 0, 0] → Fr h₀ L h' m → News h₀ L h' news → R (.ok (.ret (.bytes bs t))) { s with heap := h', toks := tk' }) :
    codeAny (model PR w) (ktrTop dp un gd cn cs L a ccd cl outer) (.call (.ref 426) ⟨[.ref xr], []⟩) R s := by
  obtain ⟨⟨z1, z2⟩, ⟨z3, z4⟩, ⟨z5, z6⟩, ⟨z7, z8⟩, ⟨z9, z10⟩, ⟨z11, z12⟩⟩ := hv
  walk_at "my:enter"
  k_steps
  all_goals (refine' ret _ _ _ _ ?e (by k_asm) (by walk_at "my:n"))
  all_goals (refine (by assumption : KBw.bInts _ = _).trans ?_)
  all_goals (simp only [List.nil_append, List.cons_append, List.map_cons, List.map_nil, u8_of z1 (Int.lt_trans z2 (by decide))])
  all_goals (first | rfl | simp)
theorem layj_36 : True := by
  k_with "call ref" => (first | (k_here; (with_reducible show wpAny _ _ (call (Value.ref 426) _ _) _ _ _); k_dflt (refine wpAny_call ?_; refine' m_asbytes (by k_asm) (by k_asm) (by k_asm) (by k_asm) (by k_asm) (by first | exact rfl | assumption) (by walk_at "my:room") (by walk_at "my:room") (by k_mem) (by k_mem) (by k_mem) (by k_mem) (by k_mem) (by assumption) (by assumption) (by walk_at "my:p") ?_; k_whole); intro bs9 t9 h9 tk9 e9 F9 N9; (try dsimp only); (try k_fold)) | fail)
  trivial
/-! ## walks from a stack that holds no call that keeps a bytearray -/
noncomputable def keepers : List String := ["bytearray.__contains__", "bytearray.__mod__", "bytearray.__rmod__", "_struct.pack_into.held", "bytearray.find.held"] ++ Builtin.Bytes.decodersThatHold
noncomputable def calm : Code → Bool
  | .builtin id _ => !keepers.contains id
  | _ => true
def Calm (Γ : Ctx) : Prop := ∀ x ∈ Γ.below, calm x.1 = true
def wpC {α : Type} (M : Model) (A : Around) (t : Sem α) (Q : α → Shared → Prop) (s : Shared) : Prop :=
  ∀ Γ p, Γ.In A → calm Γ.code = true → Calm Γ → Sem.wp M Γ t (fun a _ s' => Q a s') (fun _ _ _ => False) p s
def codeC (M : Model) (A : Around) (c : Code) (R : Flow → Shared → Prop) (s : Shared) : Prop :=
  ∀ Γ p, Γ.code = c → Γ.Below A → Calm Γ → wpCode M Γ (fun r s' => match r with | .ok f => R f s' | .error _ => False) p s
section
variable {α β : Type} {M : Model} {A : Around} {s : Shared}
theorem wpC_of {t : Sem α} {Q : α → Shared → Prop} (h : wpAny M A t Q (fun _ _ => False) s) : wpC M A t Q s := fun Γ p hΓ _ _ => h Γ p hΓ
theorem wpC_mono {t : Sem α} {Q Q' : α → Shared → Prop} (h : wpC M A t Q s) (hQ : ∀ a s, Q a s → Q' a s) : wpC M A t Q' s :=
  fun Γ p hΓ c1 c2 => Sem.wp_mono M Γ t (fun a _ s => hQ a s) (fun _ _ _ h => h) p s (h Γ p hΓ c1 c2)
theorem wpC_bind {m : Sem α} {f : α → Sem β} {Q : β → Shared → Prop} (h : wpC M A m (fun a s' => wpC M A (f a) Q s') s) : wpC M A (m >>= f) Q s := fun Γ p hΓ c1 c2 => by
  rw [Sem.wp_bind']
  exact Sem.wp_mono M Γ m (fun a p' s' h' => h' Γ p' hΓ c1 c2) (fun _ _ _ h' => h') p s (h Γ p hΓ c1 c2)
theorem wpC_pure {a : α} {Q : α → Shared → Prop} (h : Q a s) : wpC M A (pure a) Q s := fun _ _ _ _ _ => h
theorem wpC_iteN {c : Prop} [Decidable c] {a b : Sem α} {Q : α → Shared → Prop} (hc : ¬ c) (h : wpC M A b Q s) : wpC M A (if c then a else b) Q s := by rw [if_neg hc]; exact h
theorem wpC_onRaise {m : Sem α} {k : Value → Sem Unit} {Q : α → Shared → Prop} (h : wpC M A m Q s) : wpC M A (m.onRaise k) Q s := fun Γ p hΓ c1 c2 => by
  rw [Sem.wp_onRaise]
  exact Sem.wp_mono M Γ m (fun _ _ _ h' => h') (fun _ _ _ h' => h'.elim) p s (h Γ p hΓ c1 c2)
theorem wpC_holding {vs : List Value} {m : Sem α} {Q : α → Shared → Prop} (h : wpC M A m Q s) : wpC M A (holding vs m) Q s :=
  fun Γ p hΓ c1 c2 => by rw [Sem.wp_holding]; exact h Γ p hΓ c1 c2
theorem wpC_standAt {pos : Pos} {Q : Unit → Shared → Prop} (h : Q () s) : wpC M A (standAt pos) Q s := wpC_of (wpAny_standAt h)
theorem wpC_stack {Q : List (Code × Pos) → Shared → Prop} (h : ∀ st, (∀ x ∈ st, calm x.1 = true) → Q st s) : wpC M A stack Q s := fun Γ p hΓ c1 c2 => by
  show Q ((Γ.code, p) :: Γ.below) s
  refine h _ fun x hx => ?_
  rcases List.mem_cons.mp hx with rfl | hx
  · exact c1
  · exact c2 x hx
theorem wpC_run {c : Code} {h : Option Value} {Q : Flow → Shared → Prop} (hc : codeC M (A.mark h) c Q s) (hnb : h ≠ some byPass := by intro x; cases x) : wpC M A (run c h) Q s :=
  fun Γ p hΓ c1 c2 => by
    rw [Sem.wp_run]
    refine wpCode_mono (fun r s' h' => ?_) (hc _ p rfl (hΓ.enter c h p hnb) (fun x hx => ?_))
    · cases r with
      | ok f => exact h'
      | error e => exact h'
    · rcases List.mem_cons.mp hx with rfl | hx
      · exact c1
      · exact c2 x hx
theorem wpC_runValue {c : Code} {Q : Value → Shared → Prop} (hc : codeC M A c (fun f s' => match f with | .ret v => Q v s' | _ => False) s) : wpC M A (runValue c) Q s :=
  fun Γ p hΓ c1 c2 => by
    rw [Sem.wp_runValue]
    refine wpCode_mono (fun r s' h' => ?_) (hc _ p rfl (hΓ.enter c none p (by intro x; cases x)) (fun x hx => ?_))
    · cases r with
      | ok f => cases f <;> exact h'
      | error e => exact h'
    · rcases List.mem_cons.mp hx with rfl | hx
      · exact c1
      · exact c2 x hx
theorem wpC_call {f : Value} {pos : List Value} {kw : List (Str × Value)} {Q : Value → Shared → Prop} (hc : codeC M A (.call f ⟨pos, kw⟩) (fun f s' => match f with | .ret v => Q v s' | _ => False) s) : wpC M A (call f pos kw) Q s := wpC_runValue hc
theorem codeC_of {c : Code} {R : Flow → Shared → Prop} (h : codeAny M A c (fun r s' => match r with | .ok f => R f s' | .error _ => False) s) : codeC M A c R s := fun Γ p hc hΓ _ => h Γ p hc hΓ
theorem codeC_of_tree {c : Code} {R : Flow → Shared → Prop} (hcalm : calm c = true) (h : wpC M (A.under c) (M.den c) (fun fin s' => match fin with | .done f => R f s' | .again c' => c'.quiet = true ∧ codeC M A c' R s') s) : codeC M A c R s := fun Γ p hc hΓ c2 => by
  rw [wpCode_iff_wp, hc]
  refine Sem.wp_mono M Γ _ (fun fin p' s' h' => ?_) (fun _ _ _ h' => h') p s (h Γ p (hc ▸ hΓ.in) (by rw [hc]; exact hcalm) c2)
  cases fin with
  | done f => exact h'
  | again c' => exact ⟨h'.1, h'.2 (Γ.goto c') p' rfl (hΓ.goto c') c2⟩
theorem wpC_execs_cons {env : Env} {st : Stmt} {rest : List Stmt} {Q : Flow → Shared → Prop} (h : wpC M A (exec st env) (fun f s' => match f with | .next => wpC M A (execs rest env) Q s' | f => Q f s') s) : wpC M A (execs (st :: rest) env) Q s := by
  rw [execs_cons]
  refine wpC_bind (wpC_mono h fun f s' h' => ?_)
  cases f <;> first | exact h' | exact wpC_pure h'
theorem wpC_execs_nil {env : Env} {Q : Flow → Shared → Prop} (h : Q .next s) : wpC M A (execs [] env) Q s := fun _ _ _ _ _ => h
end
section
variable {prog : Program} {w : World} {A : Around} {s : Shared}
theorem exported_no {S : Addr} {Q : Bool → Shared → Prop} {M : Model} (h : Q false s) : wpC M A (Builtin.Bytes.exported (.ref S)) Q s := by
  unfold Builtin.Bytes.exported
  refine wpC_bind (wpC_stack fun st hst => ?_)
  refine wpC_pure ?_
  have e : ∀ f : Code × Pos → Bool, (∀ x ∈ st, f x = false) → Q (st.any f) s := fun f hf => by
    rw [List.any_eq_false.mpr (fun x hx => by rw [hf x hx]; exact Bool.false_ne_true)]
    exact h
  refine e _ fun x hx => ?_
  have hc := hst x hx
  obtain ⟨c, p⟩ := x
  cases c with
  | builtin id args =>
    have h1 : id ∉ keepers := by
      have hc' : (!keepers.contains id) = true := hc
      rw [Bool.not_eq_true'] at hc'
      exact fun m => by rw [List.contains_iff_mem.mpr m] at hc'; cases hc'
    have n : ∀ y ∈ keepers, id ≠ y := fun y hy e => h1 (e ▸ hy)
    have h2 : Builtin.Bytes.decodersThatHold.contains id = false := by
      cases q : Builtin.Bytes.decodersThatHold.contains id with
      | false => rfl
      | true => exact absurd (List.mem_append_right _ (List.contains_iff_mem.mp q)) h1
    obtain ⟨pos, kw⟩ := args
    delta Builtin.Bytes.exported.match_1
    refine Eq.trans (dif_neg (n "bytearray.__contains__" (List.mem_append_left _ (by decide)))) ?_
    refine Eq.trans (dif_neg (n "bytearray.__mod__" (List.mem_append_left _ (by decide)))) ?_
    refine Eq.trans (dif_neg (n "bytearray.__rmod__" (List.mem_append_left _ (by decide)))) ?_
    refine Eq.trans (dif_neg (n "_struct.pack_into.held" (List.mem_append_left _ (by decide)))) ?_
    refine Eq.trans (dif_neg (n "bytearray.find.held" (List.mem_append_left _ (by decide)))) ?_
    cases pos with
    | nil => rfl
    | cons v r =>
      show (_ && Builtin.Bytes.decodersThatHold.contains id) = false
      rw [h2, Bool.and_false]
  | _ => rfl
theorem ba_write {S : Addr} {b : Array UInt8} {n : Nat} {f : Array UInt8 → Array UInt8} {E : Value → Shared → Prop} {Q : Unit → Shared → Prop} {M : Model} (ho : s.heap.get? S = some (baObj b n)) (hz : (f b).size ≤ sizeLine)
    (h : ∀ h', h'.get? S = some (baObj (f b) n) → Heap.ExtBut S s.heap h' → Q () { s with heap := h' }) : wpAny M A (Builtin.Bytes.write (.ref S) f) Q E s := by
  show wpAny _ _ (updateBytearray S f) _ _ _
  unfold updateBytearray
  refine wpAny_bind (wpAny_load ho ?_)
  show wpAny _ _ (update S (Obj.mapBytearray f) >>= fun _ => lookBehind S) _ _ _
  refine wpAny_bind (wpAny_update ho ?_)
  have hS := Heap.get?_update_self (Obj.mapBytearray f) ho rfl
  refine wpAny_lookBehind hS ?_ (h _ hS (Heap.SameBut.update ..).extBut)
  show (if (f b).size > sizeLine then some "bytearray:memory" else none) = none
  rw [if_neg (Nat.not_lt.mpr hz)]
theorem ba_init_bind (v : Value) : Builtin.Bytes.bindOptional "bytearray.__init__" "bytearray" ["source", "encoding", "errors"] [v] [] = pure [some v, none, none] := by kernel_rfl
theorem ba_initC {S : Addr} {b : Array UInt8} {t : Tok} {Q : Fin → Shared → Prop} (ho : s.heap.get? S = some (baObj #[] 0)) (hz : b.size ≤ sizeLine)
    (h : ∀ h', h'.get? S = some (baObj b 0) → Heap.ExtBut S s.heap h' → Q (.done (.ret .none)) { s with heap := h' }) :
    wpC (model prog w) A (Builtin.«bytearray.__init__» ⟨[.ref S, .bytes b t], []⟩) Q s := by
  have hT := ba_type ho
  unfold Builtin.«bytearray.__init__»
  refine wpC_bind (wpC_of ?_)
  unfold Builtin.Bytes.ownRelease
  refine wpAny_bind (slot_own hT ba_lk_release ba_end2 ba_drop2 ba_sub (wpAny_pure ?_))
  refine wpC_iteN (by decide) ?_
  refine wpC_bind (wpC_of (wpAny_of_eq (ba_init_bind _) ?_))
  refine wpC_bind (wpC_of (wpAny_of_eq (a := ()) rfl ?_))
  refine wpC_bind (wpC_of (wpAny_of_eq (a := ()) rfl ?_))
  refine wpC_bind ?_
  unfold orM
  refine wpC_bind (exported_no ?_)
  show wpC _ _ (Builtin.Bytes.exportsOf (.ref S) >>= fun n => pure (decide (n > 0))) _ _
  unfold Builtin.Bytes.exportsOf
  refine wpC_of (wpAny_bind (wpAny_bind (wpAny_load ho (wpAny_pure (wpAny_pure ?_)))))
  refine wpC_iteN (by decide) ?_
  refine wpC_bind (wpC_of (ba_write ho (Nat.zero_le _) fun h1 hS1 k1 => ?_))
  refine wpC_of ?_
  refine wpAny_bind (wpAny_pure ?_)
  refine wpAny_bind (wpAny_ite_false (by decide) (wpAny_ite_false (by decide) (wpAny_pure ?_)))
  refine wpAny_bind (wpAny_specialOf (typeIs_bytes _ b t) by_lk_index ?_)
  refine wpAny_ite_false (by decide) ?_
  refine wpAny_bind (by_buffer ?_)
  dsimp only
  refine wpAny_bind (wpAny_rule ?_)
  refine wpAny_bind (ba_write hS1 hz fun h2 hS2 k2 => ?_)
  exact wpAny_pure (h _ hS2 (fun a o ne e => k2 a o ne (k1 a o ne e)))
end
theorem ba_mro : mroOf (.type "bytearray") = pure [.type "bytearray", .type "object"] := by rw [mroOf_type]; kernel_rfl
theorem ba_lookup_new : typeLookup (.type "bytearray") "__new__" = pure (some (.builtin "bytearray.__new__")) := by rw [typeLookup_type, builtinLookup_eq_fast]; kernel_rfl
theorem slot_ba_init : Slot "bytearray" "__init__" "bytearray.__init__" :=
  .of (owner := "bytearray") (n := "__init__") (by rw [typeLookup_type, builtinLookup_eq_fast]; kernel_rfl) (by decide +kernel) (by decide +kernel) (by decide +kernel)
    (by first | exact .inl (by decide +kernel) | exact .inr (by decide +kernel)) (by rw [isSubtype_type]; kernel_rfl)
theorem ba_called : TypeCalled "bytearray" "bytearray.__new__" "bytearray.__init__" :=
  ⟨by decide +kernel, by decide +kernel, ⟨_, _, ba_mro⟩, madeBy_type ba_mro ba_lookup_new (by decide +kernel), by decide +kernel, by rw [isSubtype_type]; kernel_rfl, slot_ba_init⟩
theorem ba_typeCall (a : Value) : checkTypeCall "bytearray" ⟨[a], []⟩ = pure () := by kernel_rfl
theorem ba_newCall (a : Value) : checkBuiltinCall "bytearray.__new__" ⟨[.type "bytearray", a], []⟩ = pure () := by kernel_rfl
theorem ba_entry_new : entryFor table "bytearray.__new__" = some Builtin.«list.__new__» := entryFor_alias (id' := "list.__new__") (by kernel_rfl) rfl (by decide +kernel) (by kernel_rfl)
theorem ba_plain_new : plainId "bytearray.__new__" = true := by decide +kernel
theorem ba_entry_init : entryFor table "bytearray.__init__" = some Builtin.«bytearray.__init__» := entryFor_of_tree (by kernel_rfl)
theorem ba_args_init (a b : Value) : argsOk "bytearray.__init__" ⟨[a, b], []⟩ := by
  unfold argsOk; rw [signature?_of (id := "bytearray.__init__") (n := ['_', '_', 't', 'i', 'n', 'i', '_', '_']) (o := ['y', 'a', 'r', 'r', 'a', 'e', 't', 'y', 'b']) (by kernel_rfl) owner_ba]; kernel_rfl
theorem ba_owner : ("bytearray.__new__".splitOn ".__new__").headD "" = "bytearray" := by rw [split_bytearray]; rfl
section
variable {prog : Program} {w : World} {A : Around} {E : Value → Shared → Prop} {s : Shared}
theorem ba_new (a : Value) {Q₁ : Value → Shared → Prop} (h : Q₁ (.ref s.heap.objs.size) { s with heap := s.heap.push (baObj #[] 0) }) :
    codeAny (model prog w) A (.call (.builtin "bytearray.__new__") ⟨[.type "bytearray", a], []⟩) (wants Q₁ E) s := by
  refine codeAny_of_tree ?_
  show wpAny _ A.in1 (do checkBuiltinCall "bytearray.__new__" ⟨[.type "bytearray", a], []⟩; again (.builtin "bytearray.__new__" ⟨[.type "bytearray", a], []⟩)) _ _ s
  refine wpAny_bind (wpAny_of_eq (ba_newCall a) (wpAny_pure ⟨plainId_quiet ba_plain_new _, codeAny_builtin_stack ba_entry_new rfl fun p st => ?_⟩))
  rw [Around.under_plainId ba_plain_new _]
  have hsub := ba_sub
  have hown := ba_owner
  obtain ⟨hp, g, d, tk, os⟩ := s
  simp only [hown]
  wp_walk
  exact h
theorem wpC_if_false {α : Type} {M : Model} {c : Bool} {a b : Sem α} {Q : α → Shared → Prop} (hc : c = false) (h : wpC M A b Q s) : wpC M A (if c = true then a else b) Q s := by
  subst hc
  exact h
theorem codeC_builtin {id : String} {args : Args} {b : Builtin} {R : Flow → Shared → Prop} (hk : keepers.contains id = false) (hb : entryFor table id = some b)
    (h : wpC (model prog w) (A.under (.builtin id args)) (b args) (fun fin s' => match fin with | .done f => R f s' | .again c' => c'.quiet = true ∧ codeC (model prog w) A c' R s') s) : codeC (model prog w) A (.builtin id args) R s := by
  refine codeC_of_tree (by simp only [calm, hk, Bool.not_false]) ?_
  have e : (model prog w).den (.builtin id args) = b args := by
    show (match entryFor table id with | some b => b args | none => unsupported ((withoutEnding? id "#data").getD id)) = _
    rw [hb]
  rw [e]; exact h
theorem ba_initCode {S : Addr} {b : Array UInt8} {t : Tok} {R : Flow → Shared → Prop} (ho : s.heap.get? S = some (baObj #[] 0)) (hz : b.size ≤ sizeLine)
    (h : ∀ h', h'.get? S = some (baObj b 0) → Heap.ExtBut S s.heap h' → R (.ret .none) { s with heap := h' }) :
    codeC (model prog w) A (.call (.builtin "bytearray.__init__") ⟨[.ref S, .bytes b t], []⟩) R s := by
  refine codeC_of_tree rfl ?_
  show wpC _ _ (do checkBuiltinCall "bytearray.__init__" ⟨[.ref S, .bytes b t], []⟩; again (.builtin "bytearray.__init__" ⟨[.ref S, .bytes b t], []⟩)) _ _
  refine wpC_bind (wpC_of (slot_ba_init.check _ _ _ _ _ _ _ _ (ba_type ho) (ba_args_init _ _) ?_))
  refine wpC_pure ⟨plainId_quiet slot_ba_init.plain _, codeC_builtin (by decide +kernel) ba_entry_init ?_⟩
  exact ba_initC ho hz h
theorem ba_callC {b : Array UInt8} {t : Tok} {Q : Value → Shared → Prop} (hz : b.size ≤ sizeLine)
    (h : ∀ h', h'.get? s.heap.objs.size = some (baObj b 0) → (∀ a o, s.heap.get? a = some o → h'.get? a = some o) → Q (.ref s.heap.objs.size) { s with heap := h' }) :
    wpC (model prog w) A (call (.type "bytearray") [.bytes b t]) Q s := by
  refine wpC_call (codeC_of_tree rfl ?_)
  show wpC _ _ (callAny (.type "bytearray") _) _ _
  refine wpC_pure ⟨Code.quiet_builtin _ (by decide +kernel), codeC_builtin (by decide +kernel) F.entry_type_call ?_⟩
  show wpC _ _ (Builtin.«type.__call__» ⟨[.type "bytearray", .bytes b t], []⟩) _ _
  unfold Builtin.«type.__call__»
  dsimp only
  refine wpC_if_false (by decide) ?_
  refine wpC_if_false ba_called.canCreate ?_
  refine wpC_bind (wpC_of (wpAny_of_eq (ba_typeCall _) ?_))
  refine wpC_bind (wpC_of (wpAny_of_eq ba_mro ?_))
  refine wpC_if_false rfl ?_
  refine wpC_bind (wpC_of (wpAny_of_eq ba_called.made ?_))
  refine wpC_bind (wpC_pure ?_)
  refine wpC_bind (wpC_of (wpAny_holding (wpAny_call (codeAny_mono (ba_new (E := fun _ _ => False) (Q₁ := fun v s' => v = .ref s.heap.objs.size ∧ s' = { s with heap := s.heap.push (baObj #[] 0) }) _ ⟨rfl, rfl⟩) fun r s₁ hr => ?_))))
  cases r with
  | error e => exact hr
  | ok fl =>
    cases fl with
    | ret obj =>
      obtain ⟨rfl, rfl⟩ := hr
      have hS : (s.heap.push (baObj #[] 0)).get? s.heap.objs.size = some (baObj #[] 0) := Heap.get?_push_size _ rfl
      have hT : Shared.TypeIs { s with heap := s.heap.push (baObj #[] 0) } (.ref s.heap.objs.size) "bytearray" := ⟨_, hS, rfl⟩
      refine wpC_bind (wpC_of (wpAny_isInstance hT ba_sub ?_))
      refine wpC_if_false rfl ?_
      refine wpC_bind (wpC_holding ?_)
      unfold callSpecial?
      refine wpC_bind (wpC_of (wpAny_specialOf hT slot_ba_init.lookup ?_))
      refine wpC_holding ?_
      refine wpC_bind (wpC_of (wpAny_of_eq (slot_ba_init.bind _) ?_))
      refine wpC_bind (wpC_call (ba_initCode hS hz fun h' h1 h2 => ?_))
      refine wpC_pure ?_
      refine wpC_if_false rfl ?_
      exact wpC_pure (h _ h1 fun a o e => h2 a o (Nat.ne_of_lt (Heap.lt_size e)) (Heap.get?_push_of_some _ e))
    | _ => exact hr.elim
end
section
variable {prog : Program} {w : World} {A : Around} {s : Shared}
theorem codeC_func {body : List Stmt} {env : Env} {R : Flow → Shared → Prop}
    (h : wpC (model prog w) (A.deeper env) (execs body env) (fun f s' => R (.ret (match f with | .ret v => v | _ => .none)) s') s) : codeC (model prog w) A (.func body env) R s := by
  refine codeC_of_tree rfl ?_
  show wpC _ (A.deeper env) (do point; match ← (execs body env).onRaise (leaving env) with | .ret v => ret v | _ => ret .none) _ s
  refine wpC_bind (wpC_of (wpAny_point ?_))
  refine wpC_bind (wpC_onRaise (wpC_mono h fun f s' h' => ?_))
  cases f <;> exact wpC_pure h'
theorem codeC_call_def {R : Flow → Shared → Prop} {a : Addr} {o : Obj} {fd : FuncData} {body : List Stmt} {args : Args} {binds : List (Str × Value)}
    (hroom : A.depth < recursionLimit) (ho : s.heap.get? a = some o) (hdata : o.data = .func fd) (hlim : s.heap.NoLimit) (hcd : s.heap.CodeRec fd.code fd.qualname)
    (hbody : fd.body = .stmts body) (hbind : BindsTo s fd args binds) {EnvP : Env → Shared → Prop}
    (hco : fd.scope.isCoroutine = false) (hgen : fd.scope.isGenerator = false)
    (hnew : wpAny (model prog w) A.in1 (newFunctionEnv fd.scope fd.globals fd.closure binds (fd.qualname ++ ".<locals>.") (some a) fd.code none fd.builtins) (fun env s₂ => s₂.heap.NoLimit ∧ EnvP env s₂) (fun _ _ => False) s)
    (h : ∀ env s₂, EnvP env s₂ → wpC (model prog w) (A.deeper env) (execs body env) (fun f s' => R (.ret (match f with | .ret v => v | _ => .none)) s') s₂) :
    codeC (model prog w) A (.call (.ref a) args) R s := by
  refine codeC_of_tree rfl ?_
  show wpC _ A.in1 (callAny (.ref a) args) _ s
  simp only [callAny]
  refine wpC_bind (wpC_of (wpAny_load ho ?_))
  obtain ⟨c, oc, vs, tq, hc, hoc, hdc, hq⟩ := hcd
  simp only [hdata, callFunction, hco, hgen, hbody, hc]
  rw [hc] at hnew
  refine wpC_bind (m := field (.ref c) 1) (wpC_of (wpAny_field hoc hdc hq ?_))
  refine wpC_bind (wpC_pure ?_)
  refine wpC_bind (wpC_of (hbind _ _ _ _ ?_))
  refine wpC_bind (wpC_of (wpAny_mono hnew (fun env s₂ h₂ => ?_) fun _ _ x => x))
  refine wpC_bind (wpC_of (wpAny_enterFrame h₂.1 hroom ?_))
  exact wpC_pure ⟨rfl, codeC_func (h env s₂ h₂.2)⟩
end
section
variable {prog : Program} {A : Around} {env : Env} {K : Frag} {p : Program} {loose : List Str}
    {R : Flow → Shared → Prop} {name qual : Str} {params : Arguments} {body : List Stmt} {scope : Scope} {dV kV doc pm cdv ct oc : Value} {an od : Option Addr} {osl : Array (Option Value)} {f : Addr} {args : Args} {binds : List (Str × Value)}
theorem callC_in (B : Below A₀ base outer h₀) (F : Fr h₀ L s.heap m) (X₀ : K.In h₀) (N : News h₀ L s.heap news) (T : Top p loose mean mg mb h₀)
    (hA : A.frames = some (env :: outer)) (hf : env.frame = some L) (hke : env.scope.kind = .function)
    (ho : K.lookup f = some ⟨oc, od, .func (fnOf name qual params body scope dV kV doc pm an cdv ct), osl⟩) (hcd : codeIn K cdv qual = true) (hroom : A.depth < recursionLimit)
    (hbind : BindsTo s (fnOf name qual params body scope dV kV doc pm an cdv ct) args binds) (hloc : ∀ y ∈ binds, scope.names.lookup y.1 = some .local)
    (h : ∀ g L' h₁, Fr h₀ L g m → Fr g L' h₁ (fun y => binds.reverse.lookup y) → News g L' h₁ news → Below A base (env :: outer) g → K.In g → Top p loose mean mg mb g →
      wpC (model prog w) (A.deeper (envOf qual scope L' f cdv)) (execs body (envOf qual scope L' f cdv))
        (fun fl s' => ∃ L₁ m₁ news₁, Fr g L₁ s'.heap m₁ ∧ News g L₁ s'.heap news₁ ∧ (Fr h₀ L s'.heap m → News h₀ L s'.heap news₁ → R (.ret (match fl with | .ret v => v | _ => .none)) s'))
        { s with heap := h₁, toks := s.toks + binds.length })
    (hco : scope.isCoroutine = false) (hgen : scope.isGenerator = false) (hk : scope.kind = .function)
    (hcell : ∀ x ∈ scope.names, x.2 ≠ .cell) : codeC (model prog w) A (.call (.ref f) args) R s := by
  have X := X₀.keeps F.keep
  obtain ⟨FG, BG, st, _⟩ := groundX (R := fun _ _ => True) B F N hA hf hke
  obtain ⟨oL, es, ep, hLg, hLd, hLk, hLf⟩ := FG.ns
  refine codeC_call_def (fd := fnOf name qual params body scope dV kV doc pm an cdv ct) (body := body) (binds := binds)
    (EnvP := fun e s₂ => ∃ h₁, e = envOf qual scope s.heap.objs.size f cdv ∧ s₂ = { s with heap := h₁, toks := s.toks + binds.length } ∧ h₁.Ns s.heap.objs.size (fun x => binds.reverse.lookup x) ∧ ∀ b o, s.heap.get? b = some o → h₁.get? b = some o)
    hroom (X _ _ ho) rfl (T.nolimit.keeps F.keep) (codeRec_of X hcd) rfl hbind hco hgen
    (wpAny_newFunctionEnv hcell hloc (fun h₁ hns hsb => ⟨(T.nolimit.keeps F.keep).fresh _ hsb, h₁, rfl, rfl, hns, fun b o e => hsb.extBut b o (Nat.ne_of_lt (Heap.lt_size e)) (Heap.get?_push_of_some _ e)⟩) hk) ?_
  rintro _ _ ⟨h₁, rfl, rfl, hns, hk₁⟩
  refine wpC_mono (h _ s.heap.objs.size h₁ FG ⟨hns, fun b o e => hk₁ b o (of_hideAll _ e), Nat.le_of_eq (hideAll_size _ _)⟩
    (fun p hp => ⟨hk₁ _ _ (N p hp).1, Nat.ne_of_lt (Heap.lt_size (N p hp).1), hideAll_none _ (List.mem_map_of_mem hp)⟩) BG (X₀.keeps st) (T.keeps st)) (fun fl s' hl => ?_)
  obtain ⟨L', m', news', F', N', k⟩ := hl
  refine k ⟨⟨oL, es, ep, F'.keep _ _ hLg, hLd, hLk, hLf⟩, fun b o e => F'.keep b o (st b o e), F.above⟩ fun p hp => ⟨(N' p hp).1, fun q => ?_, ?_⟩
  · have := (N' p hp).2.2; rw [q, hLg] at this; cases this
  · cases q : h₀.get? p.1 with
    | none => rfl
    | some o => have := (N' p hp).2.2; rw [st _ _ q] at this; cases this
end
noncomputable abbrev e8Dict0 (P : Params) (v1 v2 v3 v4 : Tok) : Obj := dictOf [⟨PyData.keyHash P (Str.ofString "name"), .str (Str.ofString "name") v1, .none⟩, ⟨PyData.keyHash P (Str.ofString "encoding"), .str (Str.ofString "encoding") v2, .str (Str.ofString "latin-1") v4⟩, ⟨PyData.keyHash P (Str.ofString "initialized"), .str (Str.ofString "initialized") v3, .bool false⟩] 3
theorem c_e8 (B : Below A₀ base outer h₀) (F : Fr h₀ L s.heap m) (X : (KK w.params).In h₀) (N : News h₀ L s.heap news) (T : Top VW LO mean mg mb h₀) (hk : cs.kind = .function) (hd : dp + 4 < recursionLimit) (hu : un + 32 < cLine)
    (ret : ∀ x dx v1 v2 v3 v4 h' tk', Fr h₀ L h' m → News h₀ L h' ((x, instObj 315 dx) :: (dx, e8Dict0 w.params v1 v2 v3 v4) :: news) →
      (∀ p ∈ news, p.1 < dx) → dx < x → Q (.ref x) { s with heap := h', toks := tk' }) :
    wpAny (model PR w) (ktrTop dp un gd cn cs L a ccd cl outer) (call (.ref 315) []) Q E s := by
  k_steps
  all_goals (exact ret _ _ _ _ _ _ _ _ (by k_asm) (by walk_at "my:n") (by walk_at "my:lt") (by assumption))
noncomputable abbrev env8 (L : Addr) : Env := envOf (Str.ofString "EightDotThree.set_byte_name") f14m8S L 257 (.ref 256)
noncomputable abbrev sbn0 : Stmt := lit (nthSt f14m8B 0) _ (by conv => lhs; whnf)
theorem sbn_first {QF : Flow → Shared → Prop} {b : Array UInt8} {t : Tok} (hm : m (Str.ofString "name") = some (.bytes b t)) (B : Below A₀ base outer h₀) (F : Fr h₀ L s.heap m) (X : (KK w.params).In h₀) (N : News h₀ L s.heap news) (T : Top VW LO mean mg mb h₀) (hd : dp + 4 < recursionLimit) (hu : un + 32 < cLine)
    (ret : ∀ h' tk', Fr h₀ L h' m → News h₀ L h' news → QF .next { s with heap := h', toks := tk' }) :
    wpAny (model PR w) (ktrTop dp un gd (Str.ofString "EightDotThree.set_byte_name") f14m8S L 257 (.ref 256) [] outer) (exec sbn0 (env8 L)) QF E s := by
  dsimp only [sbn0, lit, env8]
  k_steps
  all_goals (exact ret _ _ (by k_asm) (by walk_at "my:n"))
noncomputable abbrev sbnR : List Stmt := lit (f14m8B.drop 2) _ (by conv => lhs; whnf)
theorem sbn_rest {QF : Flow → Shared → Prop} {b : Array UInt8} {e8 d8 ba : Addr} {v1 v2 v3 v4 : Tok} (hb : b = (List.toArray [65, 32, 32, 32, 32, 32, 32, 32, 32, 32, 32])) (hm : m (Str.ofString "name") = some (.ref ba)) (hm2 : m (Str.ofString "self") = some (.ref e8)) (B : Below A₀ base outer h₀) (F : Fr h₀ L s.heap m) (X : (KK w.params).In h₀) (N : News h₀ L s.heap ((ba, baObj b 0) :: (e8, instObj 315 d8) :: (d8, e8Dict0 w.params v1 v2 v3 v4) :: news)) (l1 : ∀ p ∈ news, p.1 < d8) (l2 : d8 < e8) (l3 : e8 < ba) (T : Top VW LO mean mg mb h₀) (hd : dp + 4 < recursionLimit) (hu : un + 32 < cLine)
    (ret : ∀ v1 v3 h' tk', Fr h₀ L h' m → News h₀ L h' ((ba, baObj b 0) :: (e8, instObj 315 d8) :: (d8, e8Dict w.params v1 v2 v3 v4 ba) :: news) → QF .next { s with heap := h', toks := tk' }) :
    wpAny (model PR w) (ktrTop dp un gd (Str.ofString "EightDotThree.set_byte_name") f14m8S L 257 (.ref 256) [] outer) (execs sbnR (env8 L)) QF E s := by
  subst hb
  k_lt2 l2
  k_lt2 l3
  dsimp only [sbnR, lit, env8]
  k_steps
  all_goals (exact ret _ _ _ _ (by k_asm) (by walk_at "my:n"))
theorem layj_40 : True := by
  k_with "call ref" => (first | (k_here; (with_reducible show wpAny _ _ (call (Value.ref 315) _ _) _ _ _); k_dflt (refine' c_e8 (by k_asm) (by k_asm) (by k_asm) (by k_asm) (by k_asm) (by first | exact rfl | assumption) (by walk_at "my:room") (by walk_at "my:room") ?_; k_whole); intro x9 d9 v19 v29 v39 v49 h9 tk9 F9 N9 lt9 l29; (try k_lt lt9); (try k_lt2 l29); (try dsimp only); (try k_fold)) | fail)
  trivial
section
variable {M : Model} {A : Around} {env : Env}
theorem wpC_keep {α : Type} {vs : List Value} {t : Sem α} {Q : α → Shared → Prop} (h : wpC M A t Q s) : wpC M A (t.keep vs) Q s := fun Γ p hΓ c1 c2 => by rw [Sem.wp_keep]; exact h Γ p hΓ c1 c2
theorem wpC_operate {vs : List Value} {t : Sem Value} {Q : Value → Shared → Prop} (h : wpC M A t Q s) : wpC M A (operate vs t) Q s := fun Γ p hΓ c1 c2 => by rw [Sem.wp_operate]; exact h Γ p hΓ c1 c2
theorem wpC_bindName {x : Str} {v : Value} {Q : Unit → Shared → Prop} (h : wpC M A (storeName env x v) Q s) : wpC M A (bindName env x v) Q s := fun Γ p hΓ c1 c2 => by rw [Sem.wp_bindName]; exact h Γ p hΓ c1 c2
theorem wpC_Expr {e : PySem.Expr} {pos : Pos} {Q : Flow → Shared → Prop} (h : wpC M A (eval e env) (fun v s' => match v with | .ref _ => False | _ => Q .next s') s)
    (hi : interactive env = false := by rfl) (hs : swapsWith e none pos.line env = pure false := by rfl) : wpC M A (exec (.Expr e pos) env) Q s := by
  rw [exec_Expr env e pos hi hs]
  refine wpC_bind (wpC_standAt (wpC_bind (wpC_mono h fun v s' h' => ?_)))
  have hv : ∀ a, v ≠ .ref a := fun a hva => by subst hva; exact h'
  rw [dropValue_plain hv]
  refine wpC_pure ?_
  cases v <;> first | exact h' | exact (hv _ rfl).elim
theorem wpC_Assign_Name {x : Str} {pos' : Pos} {value : PySem.Expr} {pos : Pos} {Q : Flow → Shared → Prop} (h : wpC M A (eval value env) (fun v s₁ => wpC M A (storeName env x v) (fun _ => Q .next) s₁) s)
    (hs : swapsWith value (some (.Name x pos')) pos.line env = pure false := by rfl) : wpC M A (exec (.Assign [.Name x pos'] value pos) env) Q s := by
  rw [exec_Assign_Name env x pos' value pos hs]
  exact wpC_bind (wpC_standAt (wpC_bind (wpC_mono h fun v s₁ h₁ => wpC_bind (wpC_standAt (wpC_bind (wpC_mono (wpC_bindName h₁) fun _ s₂ h₂ => wpC_pure h₂))))))
theorem wpC_Call {func : PySem.Expr} {args : List PySem.Expr} {pos : Pos} {Q : Value → Shared → Prop}
    (h : wpAny M A (eval func env) (fun f s₁ => wpC M A (callWith pos f [] (backTo pos (starEach args env)) []) Q s₁) (fun _ _ => False) s)
    (he : eval (.Call func args [] pos) env = (do callWith pos (← eval func env) [] (backTo pos (starEach args env)) (backToKw pos (keywordEach [] env))) := by rfl) :
    wpC M A (eval (.Call func args [] pos) env) Q s := by
  rw [he]; exact wpC_bind (wpC_of h)
theorem wpC_method {o : PySem.Expr} {name : Str} {apos pos : Pos} {args : List PySem.Expr} {pl : Sem Bool} {Q : Value → Shared → Prop}
    (h : wpAny M A (eval o env) (fun ov s₁ => wpAny M A (getMethod ov name pl) (fun fx s₂ => wpC M A (callWith pos fx.1 fx.2 (backTo pos (starEach args env)) []) Q s₂) (fun _ _ => False) s₁) (fun _ _ => False) s)
    (he : eval (.Call (.Attribute o name apos) args [] pos) env = (do
      let ov ← eval o env
      standAt apos.atName
      let (f, first) ← holding [ov] (getMethod ov name pl)
      callWith pos f first (backTo pos (starEach args env)) (backToKw pos (keywordEach [] env))) := by rfl) :
    wpC M A (eval (.Call (.Attribute o name apos) args [] pos) env) Q s := by
  rw [he]
  exact wpC_bind (wpC_of (wpAny_mono h (fun ov s₁ h₁ => wpC_bind (wpC_standAt (wpC_bind (wpC_of (wpAny_holding (wpAny_mono h₁ (fun fx s₂ h₂ => h₂) fun _ _ x => x)))))) fun _ _ x => x))
theorem callWith_C {P : Heap → Prop} {pos : Pos} {f : Value} {first : List Value} {e : PySem.Expr} {rest : List PySem.Expr} {Q : Value → Shared → Prop}
    (hk : ∀ h, P h → ∃ k, (k = Keeper.frame ∨ k = Keeper.machine ∨ k = Keeper.boundFrame) ∧ Looks M h (keeperOf f) k)
    (h : wpAny M A (spliced (backTo pos (starEach (e :: rest) env))) (fun vs s₁ => P s₁.heap ∧ wpC M A (call f (first ++ vs)) Q s₁) (fun _ _ => False) s)
    (he : starEach (e :: rest) env = (false, eval e env) :: starEach rest env := by rfl) (hplain : (backTo pos (starEach rest env)).any (·.1) = false := by rfl) :
    wpC M A (callWith pos f first (backTo pos (starEach (e :: rest) env)) []) Q s := by
  rw [he] at h ⊢
  have hp : ((backTo pos ((false, eval e env) :: starEach rest env)).any (·.1) || ([] : List (Option Str × Sem Value)).any (·.1.isNone)) = false := by
    show ((false || (backTo pos (starEach rest env)).any (·.1)) || false) = false
    rw [hplain]; rfl
  unfold callWith
  refine wpC_bind (wpC_of (wpAny_holding (Calls.evalArgs_plain (wpAny_mono h (fun vs s₁ h₁ => ?_) fun _ _ x => x))))
  refine wpC_bind (wpC_standAt ?_)
  obtain ⟨k, hk', L⟩ := hk _ h₁.1
  simp only [hp]
  refine wpC_bind (wpC_of (L.here ?_))
  have tail : ∀ {t : Sem Value}, wpC M A t Q s₁ → wpC M A (t >>= fun r => holding [r] point >>= fun _ => pure r) Q s₁ :=
    fun ht => wpC_bind (wpC_mono ht fun r s₂ hr => wpC_bind (wpC_of (wpAny_holding (wpAny_point (wpC_pure hr)))))
  have marked (mk : Value) : wpC M A (callMarked mk f (first ++ vs) []) Q s₁ := by unfold callMarked; exact wpC_keep h₁.2
  rcases hk' with rfl | rfl | rfl <;> dsimp only <;> first | exact tail h₁.2 | (split <;> first | exact tail h₁.2 | exact tail (marked _))
end
noncomputable abbrev sbn1 : Stmt := lit (nthSt f14m8B 1) _ (by conv => lhs; whnf)
theorem c_sbn {R : Flow → Shared → Prop} {b : Array UInt8} {t : Tok} {e8 d8 : Addr} {v1 v2 v3 v4 : Tok} (hb : b = (List.toArray [65, 32, 32, 32, 32, 32, 32, 32, 32, 32, 32])) (B : Below A₀ base outer h₀) (F : Fr h₀ L s.heap m) (X : (KK w.params).In h₀) (N : News h₀ L s.heap ((e8, instObj 315 d8) :: (d8, e8Dict0 w.params v1 v2 v3 v4) :: news)) (l1 : ∀ p ∈ news, p.1 < d8) (l2 : d8 < e8) (T : Top VW LO mean mg mb h₀) (hk : cs.kind = .function) (hd : dp + 8 < recursionLimit) (hu : un + 64 < cLine)
    (ret : ∀ ba v1 v3 h' tk', Fr h₀ L h' m → News h₀ L h' ((ba, baObj b 0) :: (e8, instObj 315 d8) :: (d8, e8Dict w.params v1 v2 v3 v4 ba) :: news) → e8 < ba → R (.ret .none) { s with heap := h', toks := tk' }) :
    codeC (model PR w) (ktrTop dp un gd cn cs L a ccd cl outer) (.call (.ref 257) ⟨[.ref e8, .bytes b t], []⟩) R s := by
  have hz : b.size ≤ sizeLine := by subst hb; decide
  refine' callC_in (binds := [(Str.ofString "self", .ref e8), (Str.ofString "name", .bytes b t)]) B F X N T ?kA ?kF ?kK ?k6 ?k7 ?k8 ?k9 ?kB ?_ ?c2 ?c3 ?c4 ?c5
  (case kA => exact rfl); (case kF => exact rfl); (case kK => exact hk)
  (case k6 => k_is); (case k7 => k_is); (case k8 => walk_at "my:room"); (case k9 => exact BindsTo.of_eq rfl); (case kB => exact locs rfl); (case c2 => exact rfl); (case c3 => exact rfl); (case c4 => exact rfl); (case c5 => decide)
  intro g L' h₁ FG F' N' B' X' T'
  show wpC _ _ (execs (sbn0 :: sbn1 :: sbnR) (env8 L')) _ _
  refine wpC_execs_cons (wpC_of ?_)
  refine' sbn_first (dp := dp + 1) (un := un + 3) (b := b) (t := t) rfl B' F' X' N' T' ?hd1 ?hu1 (fun h2 tk2 F2 N2 => ?_)
  (case hd1 => omega); (case hu1 => omega)
  dsimp only
  refine wpC_execs_cons ?_
  dsimp only [sbn1, lit]
  refine wpC_Assign_Name (wpC_Call ?_)
  k_steps
  refine callWith_C (P := fun _ => True) (fun h _ => ⟨.machine, .inr (.inl rfl), Looks.of_pure rfl⟩) ?_
  k_steps
  · trivial
  refine ba_callC hz fun h3 hS keep => ?_
  dsimp only
  rename Fr g L' h2 _ => F2
  rename News g L' h2 _ => N2
  have F3 := F2.keptAll keep
  have hns : g.get? h2.objs.size = none := by
    cases q : g.get? h2.objs.size with
    | none => rfl
    | some o => exact absurd (Heap.lt_size (F2.keep _ _ q)) (Nat.lt_irrefl _)
  have N3 : News g L' h3 ((h2.objs.size, baObj b 0) :: (e8, instObj 315 d8) :: (d8, e8Dict0 w.params v1 v2 v3 v4) :: news) := fun p hp => by
    rcases List.mem_cons.mp hp with rfl | hp
    · exact ⟨hS, fun e => absurd F2.ns.lt (by rw [← e]; exact Nat.lt_irrefl _), hns⟩
    · exact (N2.grown keep) p hp
  have l3 : e8 < h2.objs.size := Heap.lt_size (N2 _ (.head _)).1
  refine wpC_of (wpAny_storeName_local (by rfl) F3.ns (fun h4 hn4 hs4 => ?_))
  have F4 := F3.set hn4 hs4
  have N4 := N3.set hs4
  refine wpC_of ?_
  refine' sbn_rest (dp := dp + 1) (un := un + 3) hb ?hm ?hm2 B' F4 X' N4 l1 l2 l3 T' ?hd1 ?hu1 (fun v5 v6 h5 tk5 F5 N5 => ?_)
  (case hd1 => omega); (case hu1 => omega); (case hm => exact rfl); (case hm2 => exact rfl)
  exact ⟨_, _, _, F5, N5, fun F6 N6 => ret _ _ _ _ _ F6 N6 l3⟩
theorem g5_stamp {QF : Flow → Shared → Prop} {fa cd : Addr} {fl : Addr} {ys ms dd hh mm ss : Int} {u1 u2 u3 u4 u5 u6 : Tok} (hv : (1980 ≤ ys ∧ ys ≤ 2107 ∧ 1 ≤ ms ∧ ms ≤ 12 ∧ 1 ≤ dd ∧ dd ≤ lawLen ys ms) ∧ 0 ≤ hh ∧ hh ≤ 23 ∧ 0 ≤ mm ∧ mm ≤ 59 ∧ 0 ≤ ss ∧ ss ≤ 59) (hfl : (fl, W.listOf #[.int ys u1, .int ms u2, .int dd u3, .int hh u4, .int mm u5, .int ss u6] 0) ∈ news) (l_fields : m (Str.ofString "fields") = some (.ref fl)) (B : Below A₀ h₀ [] h₀) (F : Fr h₀ L s.heap m) (X : (KK w.params).In h₀) (N : News h₀ L s.heap news) (T : Top VW LO mean mg mb h₀) (hd : dp + 80 < recursionLimit) (hu : un + 800 < cLine)
    (ret : ∀ m' h' tk' x dx k1 k2 k3 k4 k5 k6, (∀ p ∈ news, p.1 < dx) → dx < x → Keep [Str.ofString "stamp"] m m' → m' (Str.ofString "stamp") = some (.ref x) → Fr h₀ L h' m' → News h₀ L h' ((x, instObj 104 dx) :: (dx, dtDict w.params k1 k2 k3 k4 k5 k6 ys ms dd hh mm ss u1 u2 u3 u4 u5 u6) :: news) → QF .next { s with heap := h', toks := tk' }) :
    wpAny (model PR w) (ktrTop dp un (some []) (Str.ofString "law") f26S L fa (.ref cd) [(Str.ofString "start", L + 1)] []) (exec b9 (envX (Str.ofString "law") f26S L fa (.ref cd) [(Str.ofString "start", L + 1)])) QF E s := by
  have d0 : KtsDicts (([] : List Env).filterMap (·.frame)) h₀ := ktsDicts_nil
  have e0 : fo [(Str.ofString "fields", .ref fl)] m = m := fo_cons (by assumption) fo_nil
  have k0 : Keep [Str.ofString "stamp"] m (fo [(Str.ofString "fields", .ref fl)] m) := Keep.of_eq e0
  replace F := e0.symm ▸ F
  clear e0
  dsimp only [b9, lit]
  k_steps
  all_goals (try k_data)
  all_goals (refine' ret _ _ _ _ _ _ _ _ _ _ _ ?g0 ?g1 ?k ?q0 ?f ?n; walk_at "my:end")
  (case q0 => exact rfl)
  (case g0 => walk_at "my:lt")
  (case g1 => assumption)
theorem g5_seen {QF : Flow → Shared → Prop} {fa cd : Addr} {cn : Int} {tc : Tok}  (l_count : m (Str.ofString "count") = some (.int cn tc)) (B : Below A₀ h₀ [] h₀) (F : Fr h₀ L s.heap m) (X : (KK w.params).In h₀) (N : News h₀ L s.heap news) (T : Top VW LO mean mg mb h₀) (hd : dp + 80 < recursionLimit) (hu : un + 800 < cLine)
    (ret : ∀ m' h' tk' sy sm sd sl t1 t2 t3, (1980 ≤ sy ∧ sy ≤ 2107 ∧ 1 ≤ sm ∧ sm ≤ 12 ∧ 1 ≤ sd ∧ sd ≤ lawLen sy sm) → (∀ p ∈ news, p.1 < sl) → Keep [Str.ofString "seen"] m m' → m' (Str.ofString "seen") = some (.ref sl) → Fr h₀ L h' m' → News h₀ L h' ((sl, W.listOf #[.int sy t1, .int sm t2, .int sd t3] 0) :: news) → QF .next { s with heap := h', toks := tk' }) :
    wpAny (model PR w) (ktrTop dp un (some []) (Str.ofString "law") f26S L fa (.ref cd) [(Str.ofString "start", L + 1)] []) (exec b10 (envX (Str.ofString "law") f26S L fa (.ref cd) [(Str.ofString "start", L + 1)])) QF E s := by
  have d0 : KtsDicts (([] : List Env).filterMap (·.frame)) h₀ := ktsDicts_nil
  have e0 : fo [(Str.ofString "count", .int cn tc)] m = m := fo_cons (by assumption) fo_nil
  have k0 : Keep [Str.ofString "seen"] m (fo [(Str.ofString "count", .int cn tc)] m) := Keep.of_eq e0
  replace F := e0.symm ▸ F
  clear e0
  have z := (fmods2 cn).2.2.2.2.2
  dsimp only [b10, lit]
  k_steps
  all_goals (try k_data)
  all_goals (refine' ret _ _ _ _ _ _ _ _ _ _ ?g0 ?g1 ?k ?q0 ?f ?n; walk_at "my:end")
  (case q0 => exact rfl)
  (case g0 => assumption)
  (case g1 => walk_at "my:lt")
theorem g6_eight {QF : Flow → Shared → Prop} {fa cd : Addr}    (B : Below A₀ h₀ [] h₀) (F : Fr h₀ L s.heap m) (X : (KK w.params).In h₀) (N : News h₀ L s.heap news) (T : Top VW LO mean mg mb h₀) (hd : dp + 80 < recursionLimit) (hu : un + 800 < cLine)
    (ret : ∀ m' h' tk' x dx v1 v2 v3 v4, (∀ p ∈ news, p.1 < dx) → dx < x → Keep [Str.ofString "eight"] m m' → m' (Str.ofString "eight") = some (.ref x) → Fr h₀ L h' m' → News h₀ L h' ((x, instObj 315 dx) :: (dx, e8Dict0 w.params v1 v2 v3 v4) :: news) → QF .next { s with heap := h', toks := tk' }) :
    wpAny (model PR w) (ktrTop dp un (some []) (Str.ofString "law") f26S L fa (.ref cd) [(Str.ofString "start", L + 1)] []) (exec b11 (envX (Str.ofString "law") f26S L fa (.ref cd) [(Str.ofString "start", L + 1)])) QF E s := by
  have d0 : KtsDicts (([] : List Env).filterMap (·.frame)) h₀ := ktsDicts_nil
  have k0 : Keep [Str.ofString "eight"] m m := Keep.of_eq rfl
  dsimp only [b11, lit]
  k_steps
  all_goals (try k_data)
  all_goals (refine' ret _ _ _ _ _ _ _ _ _ ?g0 ?g1 ?k ?q0 ?f ?n; walk_at "my:end")
  (case q0 => exact rfl)
  (case g0 => walk_at "my:lt")
  (case g1 => assumption)
noncomputable abbrev b12 : Stmt := lit (nthSt lawB 12) _ (by conv => lhs; whnf)
theorem g7_name {QF : Flow → Shared → Prop} {fa cd : Addr} {e8 d8 : Addr} {v1 v2 v3 v4 : Tok} (l1 : ∀ p ∈ news, p.1 < d8) (l2 : d8 < e8) (l_eight : m (Str.ofString "eight") = some (.ref e8)) (B : Below A₀ h₀ [] h₀) (F : Fr h₀ L s.heap m) (X : (KK w.params).In h₀) (N : News h₀ L s.heap ((e8, instObj 315 d8) :: (d8, e8Dict0 w.params v1 v2 v3 v4) :: news)) (T : Top VW LO mean mg mb h₀) (hd : dp + 80 < recursionLimit) (hu : un + 800 < cLine)
    (ret : ∀ m' h' tk' ba b w1 w3, b = (List.toArray [65, 32, 32, 32, 32, 32, 32, 32, 32, 32, 32]) → e8 < ba → Keep [] m m' → Fr h₀ L h' m' → News h₀ L h' ((ba, baObj b 0) :: (e8, instObj 315 d8) :: (d8, e8Dict w.params w1 v2 w3 v4 ba) :: news) → QF .next { s with heap := h', toks := tk' }) :
    wpC (model PR w) (ktrTop dp un (some []) (Str.ofString "law") f26S L fa (.ref cd) [(Str.ofString "start", L + 1)] []) (exec b12 (envX (Str.ofString "law") f26S L fa (.ref cd) [(Str.ofString "start", L + 1)])) QF s := by
  have d0 : KtsDicts (([] : List Env).filterMap (·.frame)) h₀ := ktsDicts_nil
  have e0 : fo [(Str.ofString "eight", .ref e8)] m = m := fo_cons (by assumption) fo_nil
  have k0 : Keep [] m (fo [(Str.ofString "eight", .ref e8)] m) := Keep.of_eq e0
  replace F := e0.symm ▸ F
  clear e0
  dsimp only [b12, lit]
  refine wpC_Expr (wpC_method ?_)
  k_steps
  all_goals (try k_data)
  (rename Fr h₀ L _ _ => F1); (rename News h₀ L _ _ => N1)
  refine callWith_C (P := fun h => (KK w.params).In h) (fun h (hX : (KK w.params).In h) => ?hk) ?_
  case hk =>
    obtain ⟨k, hk, lk⟩ := keeps_K (K := KK w.params) (f := .ref 257) (by k_is) h hX
    exact ⟨k, hk, lk⟩
  k_steps
  all_goals (try k_data)
  refine wpC_call ?_
  refine' c_sbn ?hb B F1 X N1 l1 l2 T ?hk2 ?hd2 ?hu2 (fun ba v1' v3' h' tk' F2 N2 lt => ?_)
  (case hb => exact rfl); (case hk2 => exact rfl); (case hd2 => omega); (case hu2 => omega)
  exact ret _ _ _ _ _ _ _ rfl lt k0 F2 N2
theorem bints_inj {b c : Array UInt8} (h : KBw.bInts b = KBw.bInts c) : b.toList = c.toList :=
  (List.map_inj_right (fun x y e => UInt8.toNat_inj.mp (Int.ofNat.inj e))).mp h
theorem fmd256 {x : Int} (h : 0 ≤ x ∧ x < 65536) : x.fmod 256 = x % 256 ∧ x.fdiv 256 = x / 256 ∧ (0 ≤ x % 256 ∧ x % 256 < 256) ∧ (0 ≤ x / 256 ∧ x / 256 < 256) ∧ x / 256 % 256 = x / 256 :=
  ⟨Int.fmod_eq_emod_of_nonneg _ (by decide), Int.fdiv_eq_ediv_of_nonneg _ (by decide), by omega, by omega, by omega⟩
theorem g13_bytes {QF : Flow → Shared → Prop} {fa cd : Addr} {xr dr e8 dl d8 ba ol : Addr} {ten cT cD aD wT wD : Int} {w1 w2 w3 w4 w5 w6 w7 w8 w9 w10 w11 w12 w13 w14 w15 w16 w17 w18 r1 r2 r3 r4 r5 r6 r7 r8 r9 r10 r11 r12 v1 v2 v3 v4 o1 o2 o3 o4 o5 o6 o7 o8 o9 o10 o11 o12 : Tok} {b : Array UInt8} {k : Nat} (hv : (0 ≤ ten ∧ ten < 200) ∧ (0 ≤ cT ∧ cT < 65536) ∧ (0 ≤ cD ∧ cD < 65536) ∧ (0 ≤ aD ∧ aD < 65536) ∧ (0 ≤ wT ∧ wT < 65536) ∧ (0 ≤ wD ∧ wD < 65536)) (hxr : (xr, instObj 605 dr) ∈ news) (hdr : (dr, recDict w.params w1 w2 w3 w4 w5 w6 w7 w8 w9 w10 w11 w12 w13 w14 w15 w16 w17 w18 e8 dl ten cT cD aD wT wD r1 r2 r3 r4 r5 r6 r7 r8 r9 r10 r11 r12) ∈ news) (h8 : (e8, instObj 315 d8) ∈ news) (hd8 : (d8, e8Dict w.params v1 v2 v3 v4 ba) ∈ news) (hba : (ba, baObj b k) ∈ news) (hb : KBw.bInts b = [65, 32, 32, 32, 32, 32, 32, 32, 32, 32, 32]) (hbz : b.size = 11) (hol : (ol, W.listOf #[.int (cT.fmod 256) o1, .int (cT.fdiv 256) o2, .int (cD.fmod 256) o3, .int (cD.fdiv 256) o4, .int (aD.fmod 256) o5, .int (aD.fdiv 256) o6, .int 0 o7, .int 0 o8, .int (wT.fmod 256) o9, .int (wT.fdiv 256) o10, .int (wD.fmod 256) o11, .int (wD.fdiv 256) o12] 0) ∈ news) (l_record : m (Str.ofString "record") = some (.ref xr)) (l_octets : m (Str.ofString "octets") = some (.ref ol)) (B : Below A₀ h₀ [] h₀) (F : Fr h₀ L s.heap m) (X : (KK w.params).In h₀) (N : News h₀ L s.heap news) (T : Top VW LO mean mg mb h₀) (hd : dp + 80 < recursionLimit) (hu : un + 800 < cLine)
    (ret : ∀ m' h' tk' , Keep [] m m' → Fr h₀ L h' m' → News h₀ L h' news → QF .next { s with heap := h', toks := tk' }) :
    wpAny (model PR w) (ktrTop dp un (some []) (Str.ofString "law") f26S L fa (.ref cd) [(Str.ofString "start", L + 1)] []) (exec b20 (envX (Str.ofString "law") f26S L fa (.ref cd) [(Str.ofString "start", L + 1)])) QF E s := by
  have d0 : KtsDicts (([] : List Env).filterMap (·.frame)) h₀ := ktsDicts_nil
  have e0 : fo [(Str.ofString "record", .ref xr), (Str.ofString "octets", .ref ol)] m = m := fo_cons (by assumption) (fo_cons (by assumption) fo_nil)
  have k0 : Keep [] m (fo [(Str.ofString "record", .ref xr), (Str.ofString "octets", .ref ol)] m) := Keep.of_eq e0
  replace F := e0.symm ▸ F
  clear e0
  have m1 := fmd256 hv.2.1
  have m2 := fmd256 hv.2.2.1
  have m3 := fmd256 hv.2.2.2.1
  have m4 := fmd256 hv.2.2.2.2.1
  have m5 := fmd256 hv.2.2.2.2.2
  dsimp only [b20, lit]
  k_steps
  all_goals (try k_data)
  (rename Fr h₀ L _ _ => F1); (rename News h₀ L _ _ => N1); (rename KBw.bInts (KBy.picked _ _ _) = _ => hp)
  refine KBa.make_K (vs := [.int (cT.fmod 256) o1, .int (cT.fdiv 256) o2, .int (cD.fmod 256) o3, .int (cD.fdiv 256) o4, .int (aD.fmod 256) o5, .int (aD.fdiv 256) o6, .int 0 o7, .int 0 o8, .int (wT.fmod 256) o9, .int (wT.fdiv 256) o10, .int (wD.fmod 256) o11, .int (wD.fdiv 256) o12]) (ns := [cT.fmod 256, cT.fdiv 256, cD.fmod 256, cD.fdiv 256, aD.fmod 256, aD.fdiv 256, 0, 0, wT.fmod 256, wT.fdiv 256, wD.fmod 256, wD.fdiv 256]) F1 N1 rfl (News.isList N1 (by k_mem)) (.cons _ _ (.cons _ _ (.cons _ _ (.cons _ _ (.cons _ _ (.cons _ _ (.cons _ _ (.cons _ _ (.cons _ _ (.cons _ _ (.cons _ _ (.cons _ _ .nil)))))))))))) ?hr (by simp) (fun h2 t2 k2 F2 N2 hin => ?_)
  case hr =>
    intro n hn
    simp only [List.mem_cons, List.not_mem_nil, or_false] at hn
    rcases hn with rfl | rfl | rfl | rfl | rfl | rfl | rfl | rfl | rfl | rfl | rfl | rfl <;> omega
  refine ne_bytes ?_
  rw [bints_inj (hp.trans ((KBa.ints_make hin).trans ?hl).symm), bne_self_eq_false]
  case hl => rw [m1.1, m1.2.1, m2.1, m2.2.1, m3.1, m3.2.1, m4.1, m4.2.1, m5.1, m5.2.1, m1.2.2.2.2, m2.2.2.2.2, m3.2.2.2.2, m4.2.2.2.2, m5.2.2.2.2]; rfl
  clear F1 N1
  k_steps
  all_goals (try k_data)
  all_goals (refine' ret _ _ _   ?k  ?f ?n; walk_at "my:end")
theorem g15_no {QF : Flow → Shared → Prop} {fa cd : Addr}    (B : Below A₀ h₀ [] h₀) (F : Fr h₀ L s.heap m) (X : (KK w.params).In h₀) (N : News h₀ L s.heap news) (T : Top VW LO mean mg mb h₀) (hd : dp + 80 < recursionLimit) (hu : un + 800 < cLine)
    (ret : ∀ m' h' tk' , Keep [Str.ofString "refused"] m m' → m' (Str.ofString "refused") = some (.bool false) → Fr h₀ L h' m' → News h₀ L h' news → QF .next { s with heap := h', toks := tk' }) :
    wpAny (model PR w) (ktrTop dp un (some []) (Str.ofString "law") f26S L fa (.ref cd) [(Str.ofString "start", L + 1)] []) (exec b23 (envX (Str.ofString "law") f26S L fa (.ref cd) [(Str.ofString "start", L + 1)])) QF E s := by
  have d0 : KtsDicts (([] : List Env).filterMap (·.frame)) h₀ := ktsDicts_nil
  have k0 : Keep [Str.ofString "refused"] m m := Keep.of_eq rfl
  dsimp only [b23, lit]
  k_steps
  all_goals (try k_data)
  all_goals (refine' ret _ _ _   ?k ?q0 ?f ?n; walk_at "my:end"; (case q0 => exact rfl))
theorem g15_end {QF : Flow → Shared → Prop} {fa cd : Addr}   (l_refused : m (Str.ofString "refused") = some (.bool true)) (B : Below A₀ h₀ [] h₀) (F : Fr h₀ L s.heap m) (X : (KK w.params).In h₀) (N : News h₀ L s.heap news) (T : Top VW LO mean mg mb h₀) (hd : dp + 80 < recursionLimit) (hu : un + 800 < cLine)
    (ret : ∀ m' h' tk' , Keep [] m m' → Fr h₀ L h' m' → News h₀ L h' news → QF .next { s with heap := h', toks := tk' }) :
    wpAny (model PR w) (ktrTop dp un (some []) (Str.ofString "law") f26S L fa (.ref cd) [(Str.ofString "start", L + 1)] []) (exec b25 (envX (Str.ofString "law") f26S L fa (.ref cd) [(Str.ofString "start", L + 1)])) QF E s := by
  have d0 : KtsDicts (([] : List Env).filterMap (·.frame)) h₀ := ktsDicts_nil
  have e0 : fo [(Str.ofString "refused", .bool true)] m = m := fo_cons (by assumption) fo_nil
  have k0 : Keep [] m (fo [(Str.ofString "refused", .bool true)] m) := Keep.of_eq e0
  replace F := e0.symm ▸ F
  clear e0
  dsimp only [b25, lit]
  k_steps
  all_goals (try k_data)
  all_goals (refine' ret _ _ _   ?k  ?f ?n; walk_at "my:end")
theorem g15_bad {QF : Flow → Shared → Prop} {fa cd : Addr} {fl : Addr} {ys ms dd hh mm ss : Int} {u1 u2 u3 u4 u5 u6 : Tok} (hv : BadSix ys ms dd hh mm ss) (hfl : (fl, W.listOf #[.int ys u1, .int ms u2, .int dd u3, .int hh u4, .int mm u5, .int ss u6] 0) ∈ news) (l_fields : m (Str.ofString "fields") = some (.ref fl)) (B : Below A₀ h₀ [] h₀) (F : Fr h₀ L s.heap m) (X : (KK w.params).In h₀) (N : News h₀ L s.heap news) (T : Top VW LO mean mg mb h₀) (hd : dp + 80 < recursionLimit) (hu : un + 800 < cLine)
    (ret : ∀ m' h' tk' , Keep [Str.ofString "refused"] m m' → m' (Str.ofString "refused") = some (.bool true) → Fr h₀ L h' m' → News h₀ L h' news → QF .next { s with heap := h', toks := tk' }) :
    wpAny (model PR w) (ktrTop dp un (some []) (Str.ofString "law") f26S L fa (.ref cd) [(Str.ofString "start", L + 1)] []) (exec b24 (envX (Str.ofString "law") f26S L fa (.ref cd) [(Str.ofString "start", L + 1)])) QF (fun _ _ => False) s := by
  obtain ⟨h1, h2 | h2 | h2⟩ := hv
  · exact g14_badA ⟨h1, h2⟩ hfl l_fields B F X N T hd hu ret
  · exact g14_badB ⟨h1, h2⟩ hfl l_fields B F X N T hd hu ret
  · exact g14_badC ⟨⟨h1, h2.1⟩, h2.2⟩ hfl l_fields B F X N T hd hu ret
theorem date_is {y mo d : Int} (h : 1980 ≤ y ∧ y ≤ 2107 ∧ 1 ≤ mo ∧ mo ≤ 12 ∧ 1 ≤ d ∧ d ≤ lawLen y mo) : (lawDate ((y - 1980) * 512 + mo * 32 + d)).getD (1980, 1, 1) = (y, mo, d) := by
  have z := lawLen_range y mo
  have w1 : ((y - 1980) * 512 + mo * 32 + d).fdiv 32 = (y - 1980) * 16 + mo := by rw [Int.fdiv_eq_ediv_of_nonneg _ (by decide)]; omega
  have w2 : ((y - 1980) * 16 + mo).fmod 16 = mo := by rw [Int.fmod_eq_emod_of_nonneg _ (by decide)]; omega
  have w3 : ((y - 1980) * 16 + mo).fdiv 16 + 1980 = y := by rw [Int.fdiv_eq_ediv_of_nonneg _ (by decide)]; omega
  have w4 : ((y - 1980) * 512 + mo * 32 + d).fmod 32 = d := by rw [Int.fmod_eq_emod_of_nonneg _ (by decide)]; omega
  unfold lawDate
  rw [w1, w2, w3, w4, if_pos ⟨h.2.2.1, h.2.2.2.1, h.2.2.2.2.1, h.2.2.2.2.2⟩]
  rfl
theorem clock_is {h mi se : Int} (hh : 0 ≤ h ∧ h ≤ 23 ∧ 0 ≤ mi ∧ mi ≤ 59 ∧ 0 ≤ se ∧ se ≤ 59) : (lawClock (h * 2048 + mi * 32 + se / 2)).getD (0, 0, 0) = (h, mi, se.fdiv 2 * 2) := by
  have w0 : se.fdiv 2 = se / 2 := Int.fdiv_eq_ediv_of_nonneg _ (by decide)
  have w1 : (h * 2048 + mi * 32 + se / 2).fdiv 32 = h * 64 + mi := by rw [Int.fdiv_eq_ediv_of_nonneg _ (by decide)]; omega
  have w2 : (h * 64 + mi).fmod 64 = mi := by rw [Int.fmod_eq_emod_of_nonneg _ (by decide)]; omega
  have w3 : (h * 64 + mi).fdiv 64 = h := by rw [Int.fdiv_eq_ediv_of_nonneg _ (by decide)]; omega
  have w4 : (h * 2048 + mi * 32 + se / 2).fmod 32 = se / 2 := by rw [Int.fmod_eq_emod_of_nonneg _ (by decide)]; omega
  unfold lawClock
  rw [w0, w1, w2, w3, w4, if_pos ⟨by omega, by omega, by omega⟩]
  show (h, mi, se / 2 + se / 2) = _
  rw [show se / 2 + se / 2 = se / 2 * 2 by omega]
theorem abs1 {P : Prop} {h : Heap} {a : Addr × Obj} {l : List (Addr × Obj)} (N : News h₀ L h (a :: l)) (k : ∀ l', News h₀ L h l' → a ∈ l' → (∀ q, q ∈ l → q ∈ l') → P) : P := k _ N List.mem_cons_self (fun _ h => List.mem_cons_of_mem _ h)
theorem abs2 {P : Prop} {h : Heap} {a b : Addr × Obj} {l : List (Addr × Obj)} (N : News h₀ L h (a :: b :: l)) (k : ∀ l', News h₀ L h l' → a ∈ l' → b ∈ l' → (∀ q, q ∈ l → q ∈ l') → P) : P :=
  k _ N List.mem_cons_self (List.mem_cons_of_mem _ List.mem_cons_self) (fun _ h => List.mem_cons_of_mem _ (List.mem_cons_of_mem _ h))
theorem abs3 {P : Prop} {h : Heap} {a b c : Addr × Obj} {l : List (Addr × Obj)} (N : News h₀ L h (a :: b :: c :: l)) (k : ∀ l', News h₀ L h l' → a ∈ l' → b ∈ l' → c ∈ l' → (∀ q, q ∈ l → q ∈ l') → P) : P :=
  k _ N List.mem_cons_self (List.mem_cons_of_mem _ List.mem_cons_self) (List.mem_cons_of_mem _ (List.mem_cons_of_mem _ List.mem_cons_self)) (fun _ h => List.mem_cons_of_mem _ (List.mem_cons_of_mem _ (List.mem_cons_of_mem _ h)))
noncomputable def turnNames : List Str := [Str.ofString "head", Str.ofString "year", Str.ofString "month", Str.ofString "day", Str.ofString "hour", Str.ofString "minute", Str.ofString "half", Str.ofString "count", Str.ofString "word", Str.ofString "told", Str.ofString "due", Str.ofString "clock", Str.ofString "around", Str.ofString "years", Str.ofString "months", Str.ofString "fields", Str.ofString "stamp", Str.ofString "seen", Str.ofString "eight", Str.ofString "record", Str.ofString "octets", Str.ofString "which", Str.ofString "refused"]
theorem turn {QF : Flow → Shared → Prop} {fa cd c : Addr} {vs : List Value} {ns : List Int} {p : Int} {tp : Tok} {k : Nat} {co : Obj} {v₀ : Option Value} (hi : IntsAre vs ns) (hp : 0 ≤ p ∧ p ≤ 16) (hn : ns.length ≤ 24) (hc : (c, W.listOf vs.toArray k) ∈ news) (hco : co.data = .cell v₀) (hoff : ∀ p ∈ news, p.1 ≠ L + 1) (l_cells : m (Str.ofString "cells") = some (.ref c)) (l_place : m (Str.ofString "place") = some (.int p tp)) (B : Below A₀ h₀ [] h₀) (F : Fr h₀ L s.heap m) (X : (KK w.params).In h₀) (N : News h₀ L s.heap ((L + 1, co) :: news)) (T : Top VW LO mean mg mb h₀) (hd : dp + 80 < recursionLimit) (hu : un + 800 < cLine)
    (ret : ∀ m' h' tk' co2 v2, co2.data = .cell v2 → Keep turnNames m m' → Fr h₀ L h' m' → News h₀ L h' ((L + 1, co2) :: news) → QF .next { s with heap := h', toks := tk' }) :
    wpC (model PR w) (ktrTop dp un (some []) (Str.ofString "law") f26S L fa (.ref cd) [(Str.ofString "start", L + 1)] []) (execs lawB (envX (Str.ofString "law") f26S L fa (.ref cd) [(Str.ofString "start", L + 1)])) QF s := by
  show wpC _ _ (execs [b0, b1, g2For, b3, b4, b5, b6, b7, b8, b9, b10, b11, b12, b13, b14, b15, b16, b17, b18, b19, b20, b21, b22, b23, b24, b25] _) _ _
  have c0 : Keep turnNames m m := Keep.of_eq rfl
  refine wpC_execs_cons (wpC_of ?_)
  refine' g1_unpack hi hp hn (List.mem_cons_of_mem _ hc) l_cells l_place B F X N T hd hu (fun m1 h1 tk1 x1 x2 x3 x4 x5 x6 x7 x8 tx1 tx2 tx3 tx4 tx5 tx6 tx7 tx8 k1 n_head n_year n_month n_day n_hour n_minute n_half n_count F1 N1 => ?_)
  dsimp only
  replace c0 := c0.trans (k1.mono (by decide))
  replace l_cells := k1.at l_cells
  replace l_place := k1.at l_place
  have l_head := n_head; clear n_head
  have l_year := n_year; clear n_year
  have l_month := n_month; clear n_month
  have l_day := n_day; clear n_day
  have l_hour := n_hour; clear n_hour
  have l_minute := n_minute; clear n_minute
  have l_half := n_half; clear n_half
  have l_count := n_count; clear n_count
  clear F N; have F := F1; have N := N1; clear F1 N1 k1
  refine wpC_execs_cons (wpC_of ?_)
  refine' g1_start hco hoff l_year l_month B F X N T hd hu (fun m1 h1 tk1 co2 st ts hco2 hst k1 F1 N1 => ?_)
  dsimp only
  replace c0 := c0.trans (k1.mono (by decide))
  replace l_cells := k1.at l_cells
  replace l_place := k1.at l_place
  replace l_head := k1.at l_head
  replace l_year := k1.at l_year
  replace l_month := k1.at l_month
  replace l_day := k1.at l_day
  replace l_hour := k1.at l_hour
  replace l_minute := k1.at l_minute
  replace l_half := k1.at l_half
  replace l_count := k1.at l_count
  clear F N; have F := F1; have N := N1; clear F1 N1 k1
  have sub : ∀ q, q ∈ ((L + 1, co2) :: news) → q ∈ ((L + 1, co2) :: news) := fun q hq => hq
  have hce : (L + 1, co2) ∈ ((L + 1, co2) :: news) := List.mem_cons_self
  have st1 : 0 ≤ st ∧ st + 31 < 65536 := by and_intros <;> omega
  refine wpC_execs_cons (wpC_of ?_)
  refine' g2_loop hco2 st1 hce l_day l_place B F X N T hd hu (fun m1 h1 tk1 k1 F1 N1 => ?_)
  dsimp only
  replace c0 := c0.trans (k1.mono (by decide))
  replace l_cells := k1.at l_cells
  replace l_place := k1.at l_place
  replace l_head := k1.at l_head
  replace l_year := k1.at l_year
  replace l_month := k1.at l_month
  replace l_day := k1.at l_day
  replace l_hour := k1.at l_hour
  replace l_minute := k1.at l_minute
  replace l_half := k1.at l_half
  replace l_count := k1.at l_count
  clear F N; have F := F1; have N := N1; clear F1 N1 k1
  refine wpC_execs_cons (wpC_of ?_)
  refine' g3_clock  l_hour l_minute l_half B F X N T hd hu (fun m1 h1 tk1 ck tck hck k1 n_clock F1 N1 => ?_)
  dsimp only
  replace c0 := c0.trans (k1.mono (by decide))
  replace l_cells := k1.at l_cells
  replace l_place := k1.at l_place
  replace l_head := k1.at l_head
  replace l_year := k1.at l_year
  replace l_month := k1.at l_month
  replace l_day := k1.at l_day
  replace l_hour := k1.at l_hour
  replace l_minute := k1.at l_minute
  replace l_half := k1.at l_half
  replace l_count := k1.at l_count
  have l_clock := n_clock; clear n_clock
  clear F N; have F := F1; have N := N1; clear F1 N1 k1
  have ck1 : 0 ≤ ck ∧ ck < 65536 := by and_intros <;> omega
  have ck2 : 0 ≤ ck ∧ ck < 65536 ∧ ck % 32 = x7 % 32 := by and_intros <;> omega
  clear hck
  refine wpC_execs_cons (wpC_of ?_)
  refine' g3_around ck2 l_hour l_half l_clock l_place B F X N T hd hu (fun m1 h1 tk1 al ws ks hi2 hr2 hz2 k1 n_around F1 N1 => ?_)
  dsimp only
  replace c0 := c0.trans (k1.mono (by decide))
  replace l_cells := k1.at l_cells
  replace l_place := k1.at l_place
  replace l_head := k1.at l_head
  replace l_year := k1.at l_year
  replace l_month := k1.at l_month
  replace l_day := k1.at l_day
  replace l_hour := k1.at l_hour
  replace l_minute := k1.at l_minute
  replace l_half := k1.at l_half
  replace l_count := k1.at l_count
  replace l_clock := k1.at l_clock
  have l_around := n_around; clear n_around
  clear F N; have F := F1; have N := N1; clear F1 N1 k1
  refine abs1 N (fun nl1 N2 e0_1 up => ?_)
  clear N; have N := N2; clear N2
  replace hce := up _ hce
  replace sub := fun q (hq : q ∈ ((L + 1, co2) :: news)) => up q (sub q hq)
  clear up
  have hal := e0_1; clear e0_1
  refine wpC_execs_cons (wpC_of ?_)
  refine' g3_loop ck1 hi2 hr2 hz2 hal l_clock l_around B F X N T hd hu (fun m1 h1 tk1 k1 F1 N1 => ?_)
  dsimp only
  replace c0 := c0.trans (k1.mono (by decide))
  replace l_cells := k1.at l_cells
  replace l_place := k1.at l_place
  replace l_head := k1.at l_head
  replace l_year := k1.at l_year
  replace l_month := k1.at l_month
  replace l_day := k1.at l_day
  replace l_hour := k1.at l_hour
  replace l_minute := k1.at l_minute
  replace l_half := k1.at l_half
  replace l_count := k1.at l_count
  replace l_clock := k1.at l_clock
  replace l_around := k1.at l_around
  clear F N; have F := F1; have N := N1; clear F1 N1 k1
  clear hal hi2 hr2 hz2
  refine wpC_execs_cons (wpC_of ?_)
  refine' g4_word hco2 hce l_day B F X N T hd hu (fun m1 h1 tk1 wd tw hwd0 k1 n_word F1 N1 => ?_)
  dsimp only
  replace c0 := c0.trans (k1.mono (by decide))
  replace l_cells := k1.at l_cells
  replace l_place := k1.at l_place
  replace l_head := k1.at l_head
  replace l_year := k1.at l_year
  replace l_month := k1.at l_month
  replace l_day := k1.at l_day
  replace l_hour := k1.at l_hour
  replace l_minute := k1.at l_minute
  replace l_half := k1.at l_half
  replace l_count := k1.at l_count
  replace l_clock := k1.at l_clock
  replace l_around := k1.at l_around
  have l_word := n_word; clear n_word
  clear F N; have F := F1; have N := N1; clear F1 N1 k1
  have hwd : 0 ≤ wd ∧ wd < 65536 := by and_intros <;> omega
  clear hwd0
  refine wpC_execs_cons (wpC_of ?_)
  refine' g4_years  l_year l_month B F X N T hd hu (fun m1 h1 tk1 ys ms ty tm hys hms k1 n_years n_months F1 N1 => ?_)
  dsimp only
  replace c0 := c0.trans (k1.mono (by decide))
  replace l_cells := k1.at l_cells
  replace l_place := k1.at l_place
  replace l_head := k1.at l_head
  replace l_year := k1.at l_year
  replace l_month := k1.at l_month
  replace l_day := k1.at l_day
  replace l_hour := k1.at l_hour
  replace l_minute := k1.at l_minute
  replace l_half := k1.at l_half
  replace l_count := k1.at l_count
  replace l_clock := k1.at l_clock
  replace l_around := k1.at l_around
  replace l_word := k1.at l_word
  have l_years := n_years; clear n_years
  have l_months := n_months; clear n_months
  clear F N; have F := F1; have N := N1; clear F1 N1 k1
  have ym : (1980 ≤ ys ∧ ys ≤ 2107) ∧ (1 ≤ ms ∧ ms ≤ 12) := by and_intros <;> omega
  clear hys hms hst
  refine wpC_execs_cons (wpC_of ?_)
  refine' g4_fields  l_years l_months l_day l_hour l_minute l_half B F X N T hd hu (fun m1 h1 tk1 fl dd hh mm ss u1 u2 u3 u4 u5 u6 hfv k1 n_fields F1 N1 => ?_)
  dsimp only
  replace c0 := c0.trans (k1.mono (by decide))
  replace l_cells := k1.at l_cells
  replace l_place := k1.at l_place
  replace l_head := k1.at l_head
  replace l_year := k1.at l_year
  replace l_month := k1.at l_month
  replace l_day := k1.at l_day
  replace l_hour := k1.at l_hour
  replace l_minute := k1.at l_minute
  replace l_half := k1.at l_half
  replace l_count := k1.at l_count
  replace l_clock := k1.at l_clock
  replace l_around := k1.at l_around
  replace l_word := k1.at l_word
  replace l_years := k1.at l_years
  replace l_months := k1.at l_months
  have l_fields := n_fields; clear n_fields
  clear F N; have F := F1; have N := N1; clear F1 N1 k1
  refine abs1 N (fun nl2 N2 e0_2 up => ?_)
  clear N; have N := N2; clear N2
  replace hce := up _ hce
  replace sub := fun q (hq : q ∈ ((L + 1, co2) :: news)) => up q (sub q hq)
  clear up
  have hfl := e0_2; clear e0_2
  have hv : (1980 ≤ ys ∧ ys ≤ 2107 ∧ 1 ≤ ms ∧ ms ≤ 12 ∧ 1 ≤ dd ∧ dd ≤ lawLen ys ms) ∧ 0 ≤ hh ∧ hh ≤ 23 ∧ 0 ≤ mm ∧ mm ≤ 59 ∧ 0 ≤ ss ∧ ss ≤ 59 := ⟨⟨ym.1.1, ym.1.2, ym.2.1, ym.2.2, hfv.1⟩, hfv.2⟩
  have zl := lawLen_range ys ms
  have hss : ss.fdiv 2 = ss / 2 := Int.fdiv_eq_ediv_of_nonneg _ (by decide)
  refine wpC_execs_cons (wpC_of ?_)
  refine' g5_stamp hv hfl l_fields B F X N T hd hu (fun m1 h1 tk1 xs dx k1a k2a k3a k4a k5a k6a ltx ltx2 k1 n_stamp F1 N1 => ?_)
  dsimp only
  replace c0 := c0.trans (k1.mono (by decide))
  replace l_cells := k1.at l_cells
  replace l_place := k1.at l_place
  replace l_head := k1.at l_head
  replace l_year := k1.at l_year
  replace l_month := k1.at l_month
  replace l_day := k1.at l_day
  replace l_hour := k1.at l_hour
  replace l_minute := k1.at l_minute
  replace l_half := k1.at l_half
  replace l_count := k1.at l_count
  replace l_clock := k1.at l_clock
  replace l_around := k1.at l_around
  replace l_word := k1.at l_word
  replace l_years := k1.at l_years
  replace l_months := k1.at l_months
  replace l_fields := k1.at l_fields
  have l_stamp := n_stamp; clear n_stamp
  clear F N; have F := F1; have N := N1; clear F1 N1 k1
  refine abs2 N (fun nl3 N2 e0_3 e1_3 up => ?_)
  clear N; have N := N2; clear N2
  replace hce := up _ hce
  replace hfl := up _ hfl
  replace sub := fun q (hq : q ∈ ((L + 1, co2) :: news)) => up q (sub q hq)
  clear up
  have hst := e0_3; clear e0_3
  have hdx := e1_3; clear e1_3
  clear ltx ltx2
  refine wpC_execs_cons (wpC_of ?_)
  refine' g5_seen  l_count B F X N T hd hu (fun m1 h1 tk1 sy sm sd sl t1 t2 t3 hs lts k1 n_seen F1 N1 => ?_)
  dsimp only
  replace c0 := c0.trans (k1.mono (by decide))
  replace l_cells := k1.at l_cells
  replace l_place := k1.at l_place
  replace l_head := k1.at l_head
  replace l_year := k1.at l_year
  replace l_month := k1.at l_month
  replace l_day := k1.at l_day
  replace l_hour := k1.at l_hour
  replace l_minute := k1.at l_minute
  replace l_half := k1.at l_half
  replace l_count := k1.at l_count
  replace l_clock := k1.at l_clock
  replace l_around := k1.at l_around
  replace l_word := k1.at l_word
  replace l_years := k1.at l_years
  replace l_months := k1.at l_months
  replace l_fields := k1.at l_fields
  replace l_stamp := k1.at l_stamp
  have l_seen := n_seen; clear n_seen
  clear F N; have F := F1; have N := N1; clear F1 N1 k1
  refine abs1 N (fun nl4 N2 e0_4 up => ?_)
  clear N; have N := N2; clear N2
  replace hce := up _ hce
  replace hfl := up _ hfl
  replace hst := up _ hst
  replace hdx := up _ hdx
  replace sub := fun q (hq : q ∈ ((L + 1, co2) :: news)) => up q (sub q hq)
  clear up
  have hsl := e0_4; clear e0_4
  have zs := lawLen_range sy sm
  have aD1 : 0 ≤ (sy - 1980) * 512 + sm * 32 + sd ∧ (sy - 1980) * 512 + sm * 32 + sd < 65536 := by and_intros <;> omega
  have wD1 : 0 ≤ (ys - 1980) * 512 + ms * 32 + dd ∧ (ys - 1980) * 512 + ms * 32 + dd < 65536 := by and_intros <;> omega
  have wT1 : 0 ≤ hh * 2048 + mm * 32 + ss / 2 ∧ hh * 2048 + mm * 32 + ss / 2 < 65536 := by and_intros <;> omega
  clear lts zl zs
  refine wpC_execs_cons (wpC_of ?_)
  refine' g6_eight   B F X N T hd hu (fun m1 h1 tk1 e8 d8 v1 v2 v3 v4 lt8 l28 k1 n_eight F1 N1 => ?_)
  dsimp only
  replace c0 := c0.trans (k1.mono (by decide))
  replace l_cells := k1.at l_cells
  replace l_place := k1.at l_place
  replace l_head := k1.at l_head
  replace l_year := k1.at l_year
  replace l_month := k1.at l_month
  replace l_day := k1.at l_day
  replace l_hour := k1.at l_hour
  replace l_minute := k1.at l_minute
  replace l_half := k1.at l_half
  replace l_count := k1.at l_count
  replace l_clock := k1.at l_clock
  replace l_around := k1.at l_around
  replace l_word := k1.at l_word
  replace l_years := k1.at l_years
  replace l_months := k1.at l_months
  replace l_fields := k1.at l_fields
  replace l_stamp := k1.at l_stamp
  replace l_seen := k1.at l_seen
  have l_eight := n_eight; clear n_eight
  clear F N; have F := F1; have N := N1; clear F1 N1 k1
  refine wpC_execs_cons ?_
  refine' g7_name lt8 l28 l_eight B F X N T hd hu (fun m1 h1 tk1 ba b v1b v3b hb lt9 k1 F1 N1 => ?_)
  dsimp only
  replace c0 := c0.trans (k1.mono (by decide))
  replace l_cells := k1.at l_cells
  replace l_place := k1.at l_place
  replace l_head := k1.at l_head
  replace l_year := k1.at l_year
  replace l_month := k1.at l_month
  replace l_day := k1.at l_day
  replace l_hour := k1.at l_hour
  replace l_minute := k1.at l_minute
  replace l_half := k1.at l_half
  replace l_count := k1.at l_count
  replace l_clock := k1.at l_clock
  replace l_around := k1.at l_around
  replace l_word := k1.at l_word
  replace l_years := k1.at l_years
  replace l_months := k1.at l_months
  replace l_fields := k1.at l_fields
  replace l_stamp := k1.at l_stamp
  replace l_seen := k1.at l_seen
  replace l_eight := k1.at l_eight
  clear F N; have F := F1; have N := N1; clear F1 N1 k1
  refine abs3 N (fun nl5 N2 e0_5 e1_5 e2_5 up => ?_)
  clear N; have N := N2; clear N2
  replace hce := up _ hce
  replace hfl := up _ hfl
  replace hst := up _ hst
  replace hdx := up _ hdx
  replace hsl := up _ hsl
  replace sub := fun q (hq : q ∈ ((L + 1, co2) :: news)) => up q (sub q hq)
  clear up
  have h8 := e1_5; clear e1_5
  have hd8 := e2_5; clear e2_5
  have hba := e0_5; clear e0_5
  clear lt8 l28 lt9
  refine wpC_execs_cons (wpC_of ?_)
  refine' g8_record hv hs ck1 hwd hst hdx hsl l_eight l_head l_clock l_word l_stamp l_seen B F X N T hd hu (fun m1 h1 tk1 xr dr dl w1 w2 w3 w4 w5 w6 w7 w8 w9 w10 w11 w12 w13 w14 w15 w16 w17 w18 r1 r2 r3 r4 r5 r6 r7 r8 r9 r10 r11 r12 k1 n_record F1 N1 => ?_)
  dsimp only
  replace c0 := c0.trans (k1.mono (by decide))
  replace l_cells := k1.at l_cells
  replace l_place := k1.at l_place
  replace l_head := k1.at l_head
  replace l_year := k1.at l_year
  replace l_month := k1.at l_month
  replace l_day := k1.at l_day
  replace l_hour := k1.at l_hour
  replace l_minute := k1.at l_minute
  replace l_half := k1.at l_half
  replace l_count := k1.at l_count
  replace l_clock := k1.at l_clock
  replace l_around := k1.at l_around
  replace l_word := k1.at l_word
  replace l_years := k1.at l_years
  replace l_months := k1.at l_months
  replace l_fields := k1.at l_fields
  replace l_stamp := k1.at l_stamp
  replace l_seen := k1.at l_seen
  replace l_eight := k1.at l_eight
  have l_record := n_record; clear n_record
  clear F N; have F := F1; have N := N1; clear F1 N1 k1
  refine abs2 N (fun nl6 N2 e0_6 e1_6 up => ?_)
  clear N; have N := N2; clear N2
  replace hce := up _ hce
  replace hfl := up _ hfl
  replace hst := up _ hst
  replace hdx := up _ hdx
  replace hsl := up _ hsl
  replace h8 := up _ h8
  replace hd8 := up _ hd8
  replace hba := up _ hba
  replace sub := fun q (hq : q ∈ ((L + 1, co2) :: news)) => up q (sub q hq)
  clear up
  have hxr := e0_6; clear e0_6
  have hdr := e1_6; clear e1_6
  refine wpC_execs_cons (wpC_of ?_)
  refine' g9_due hwd l_word B F X N T hd hu (fun m1 h1 tk1 yy mo d d1 a1 a2 a3 hdue k1 n_due F1 N1 => ?_)
  dsimp only
  replace c0 := c0.trans (k1.mono (by decide))
  replace l_cells := k1.at l_cells
  replace l_place := k1.at l_place
  replace l_head := k1.at l_head
  replace l_year := k1.at l_year
  replace l_month := k1.at l_month
  replace l_day := k1.at l_day
  replace l_hour := k1.at l_hour
  replace l_minute := k1.at l_minute
  replace l_half := k1.at l_half
  replace l_count := k1.at l_count
  replace l_clock := k1.at l_clock
  replace l_around := k1.at l_around
  replace l_word := k1.at l_word
  replace l_years := k1.at l_years
  replace l_months := k1.at l_months
  replace l_fields := k1.at l_fields
  replace l_stamp := k1.at l_stamp
  replace l_seen := k1.at l_seen
  replace l_eight := k1.at l_eight
  replace l_record := k1.at l_record
  have l_due := n_due; clear n_due
  clear F N; have F := F1; have N := N1; clear F1 N1 k1
  refine abs1 N (fun nl7 N2 e0_7 up => ?_)
  clear N; have N := N2; clear N2
  replace hce := up _ hce
  replace hfl := up _ hfl
  replace hsl := up _ hsl
  replace h8 := up _ h8
  replace hd8 := up _ hd8
  replace hba := up _ hba
  replace hxr := up _ hxr
  replace hdr := up _ hdr
  replace sub := fun q (hq : q ∈ ((L + 1, co2) :: news)) => up q (sub q hq)
  clear up
  have hd1 := e0_7; clear e0_7
  refine wpC_execs_cons (wpC_of ?_)
  refine' g9_due2 ck1 hd1 l_clock l_due B F X N T hd hu (fun m1 h1 tk1 ho2 mi2 se2 d2 a4 a5 a6 hdue2 k1 n_due F1 N1 => ?_)
  dsimp only
  replace c0 := c0.trans (k1.mono (by decide))
  replace l_cells := k1.at l_cells
  replace l_place := k1.at l_place
  replace l_head := k1.at l_head
  replace l_year := k1.at l_year
  replace l_month := k1.at l_month
  replace l_day := k1.at l_day
  replace l_hour := k1.at l_hour
  replace l_minute := k1.at l_minute
  replace l_half := k1.at l_half
  replace l_count := k1.at l_count
  replace l_clock := k1.at l_clock
  replace l_around := k1.at l_around
  replace l_word := k1.at l_word
  replace l_years := k1.at l_years
  replace l_months := k1.at l_months
  replace l_fields := k1.at l_fields
  replace l_stamp := k1.at l_stamp
  replace l_seen := k1.at l_seen
  replace l_eight := k1.at l_eight
  replace l_record := k1.at l_record
  have l_due := n_due; clear n_due
  clear F N; have F := F1; have N := N1; clear F1 N1 k1
  refine abs1 N (fun nl8 N2 e0_8 up => ?_)
  clear N; have N := N2; clear N2
  replace hce := up _ hce
  replace hfl := up _ hfl
  replace hsl := up _ hsl
  replace h8 := up _ h8
  replace hd8 := up _ hd8
  replace hba := up _ hba
  replace hxr := up _ hxr
  replace hdr := up _ hdr
  replace hd1 := up _ hd1
  replace sub := fun q (hq : q ∈ ((L + 1, co2) :: news)) => up q (sub q hq)
  clear up
  have hd2 := e0_8; clear e0_8
  refine wpC_execs_cons (wpC_of ?_)
  refine' g10_ctime hwd ck1 hdue hdue2 hxr hdr hd2 l_record l_due B F X N T hd hu (fun m1 h1 tk1 k1 F1 N1 => ?_)
  dsimp only
  replace c0 := c0.trans (k1.mono (by decide))
  replace l_cells := k1.at l_cells
  replace l_place := k1.at l_place
  replace l_head := k1.at l_head
  replace l_year := k1.at l_year
  replace l_month := k1.at l_month
  replace l_day := k1.at l_day
  replace l_hour := k1.at l_hour
  replace l_minute := k1.at l_minute
  replace l_half := k1.at l_half
  replace l_count := k1.at l_count
  replace l_clock := k1.at l_clock
  replace l_around := k1.at l_around
  replace l_word := k1.at l_word
  replace l_years := k1.at l_years
  replace l_months := k1.at l_months
  replace l_fields := k1.at l_fields
  replace l_stamp := k1.at l_stamp
  replace l_seen := k1.at l_seen
  replace l_eight := k1.at l_eight
  replace l_record := k1.at l_record
  replace l_due := k1.at l_due
  clear F N; have F := F1; have N := N1; clear F1 N1 k1
  refine wpC_execs_cons (wpC_of ?_)
  refine' g11_times wD1 wT1 aD1 (date_is hv.1) (clock_is hv.2) (date_is hs) hxr hdr hfl hsl l_record l_fields l_seen B F X N T hd hu (fun m1 h1 tk1 k1 F1 N1 => ?_)
  dsimp only
  replace c0 := c0.trans (k1.mono (by decide))
  replace l_cells := k1.at l_cells
  replace l_place := k1.at l_place
  replace l_head := k1.at l_head
  replace l_year := k1.at l_year
  replace l_month := k1.at l_month
  replace l_day := k1.at l_day
  replace l_hour := k1.at l_hour
  replace l_minute := k1.at l_minute
  replace l_half := k1.at l_half
  replace l_count := k1.at l_count
  replace l_clock := k1.at l_clock
  replace l_around := k1.at l_around
  replace l_word := k1.at l_word
  replace l_years := k1.at l_years
  replace l_months := k1.at l_months
  replace l_fields := k1.at l_fields
  replace l_stamp := k1.at l_stamp
  replace l_seen := k1.at l_seen
  replace l_eight := k1.at l_eight
  replace l_record := k1.at l_record
  replace l_due := k1.at l_due
  clear F N; have F := F1; have N := N1; clear F1 N1 k1
  refine wpC_execs_cons (wpC_of ?_)
  refine' g12_oct1 ck1 hwd aD1 hsl l_clock l_word l_seen B F X N T hd hu (fun m1 h1 tk1 ol o1 o2 o3 o4 o5 o6 o7 o8 k1 n_octets F1 N1 => ?_)
  dsimp only
  replace c0 := c0.trans (k1.mono (by decide))
  replace l_cells := k1.at l_cells
  replace l_place := k1.at l_place
  replace l_head := k1.at l_head
  replace l_year := k1.at l_year
  replace l_month := k1.at l_month
  replace l_day := k1.at l_day
  replace l_hour := k1.at l_hour
  replace l_minute := k1.at l_minute
  replace l_half := k1.at l_half
  replace l_count := k1.at l_count
  replace l_clock := k1.at l_clock
  replace l_around := k1.at l_around
  replace l_word := k1.at l_word
  replace l_years := k1.at l_years
  replace l_months := k1.at l_months
  replace l_fields := k1.at l_fields
  replace l_stamp := k1.at l_stamp
  replace l_seen := k1.at l_seen
  replace l_eight := k1.at l_eight
  replace l_record := k1.at l_record
  replace l_due := k1.at l_due
  have l_octets := n_octets; clear n_octets
  clear F N; have F := F1; have N := N1; clear F1 N1 k1
  refine abs1 N (fun nl9 N2 e0_9 up => ?_)
  clear N; have N := N2; clear N2
  replace hce := up _ hce
  replace hfl := up _ hfl
  replace hsl := up _ hsl
  replace h8 := up _ h8
  replace hd8 := up _ hd8
  replace hba := up _ hba
  replace hxr := up _ hxr
  replace hdr := up _ hdr
  replace sub := fun q (hq : q ∈ ((L + 1, co2) :: news)) => up q (sub q hq)
  clear up
  have hol := e0_9; clear e0_9
  refine wpC_execs_cons (wpC_of ?_)
  refine' g12_oct2 (hss ▸ wT1) wD1 hfl hol l_octets l_fields l_years l_months B F X N T hd hu (fun m1 h1 tk1 ol2 o9 o10 o11 o12 k1 n_octets F1 N1 => ?_)
  dsimp only
  replace c0 := c0.trans (k1.mono (by decide))
  replace l_cells := k1.at l_cells
  replace l_place := k1.at l_place
  replace l_head := k1.at l_head
  replace l_year := k1.at l_year
  replace l_month := k1.at l_month
  replace l_day := k1.at l_day
  replace l_hour := k1.at l_hour
  replace l_minute := k1.at l_minute
  replace l_half := k1.at l_half
  replace l_count := k1.at l_count
  replace l_clock := k1.at l_clock
  replace l_around := k1.at l_around
  replace l_word := k1.at l_word
  replace l_years := k1.at l_years
  replace l_months := k1.at l_months
  replace l_fields := k1.at l_fields
  replace l_stamp := k1.at l_stamp
  replace l_seen := k1.at l_seen
  replace l_eight := k1.at l_eight
  replace l_record := k1.at l_record
  replace l_due := k1.at l_due
  have l_octets := n_octets; clear n_octets
  clear F N; have F := F1; have N := N1; clear F1 N1 k1
  rw [hss] at N
  refine abs1 N (fun nl10 N2 e0_10 up => ?_)
  clear N; have N := N2; clear N2
  replace hce := up _ hce
  replace hfl := up _ hfl
  replace hsl := up _ hsl
  replace h8 := up _ h8
  replace hd8 := up _ hd8
  replace hba := up _ hba
  replace hxr := up _ hxr
  replace hdr := up _ hdr
  replace hol := up _ hol
  replace sub := fun q (hq : q ∈ ((L + 1, co2) :: news)) => up q (sub q hq)
  clear up
  have hol2 := e0_10; clear e0_10
  refine wpC_execs_cons (wpC_of ?_)
  refine' g13_bytes ⟨by rw [Int.fmod_eq_emod_of_nonneg _ (by decide)]; omega, ck1, hwd, aD1, wT1, wD1⟩ hxr hdr h8 hd8 hba (by rw [hb]; decide) (by rw [hb]; rfl) hol2 l_record l_octets B F X N T hd hu (fun m1 h1 tk1 k1 F1 N1 => ?_)
  dsimp only
  replace c0 := c0.trans (k1.mono (by decide))
  replace l_cells := k1.at l_cells
  replace l_place := k1.at l_place
  replace l_head := k1.at l_head
  replace l_year := k1.at l_year
  replace l_month := k1.at l_month
  replace l_day := k1.at l_day
  replace l_hour := k1.at l_hour
  replace l_minute := k1.at l_minute
  replace l_half := k1.at l_half
  replace l_count := k1.at l_count
  replace l_clock := k1.at l_clock
  replace l_around := k1.at l_around
  replace l_word := k1.at l_word
  replace l_years := k1.at l_years
  replace l_months := k1.at l_months
  replace l_fields := k1.at l_fields
  replace l_stamp := k1.at l_stamp
  replace l_seen := k1.at l_seen
  replace l_eight := k1.at l_eight
  replace l_record := k1.at l_record
  replace l_due := k1.at l_due
  replace l_octets := k1.at l_octets
  clear F N; have F := F1; have N := N1; clear F1 N1 k1
  refine wpC_execs_cons (wpC_of ?_)
  refine' g14_which  l_head B F X N T hd hu (fun m1 h1 tk1 wh tw2 hwh k1 n_which F1 N1 => ?_)
  dsimp only
  replace c0 := c0.trans (k1.mono (by decide))
  replace l_cells := k1.at l_cells
  replace l_place := k1.at l_place
  replace l_head := k1.at l_head
  replace l_year := k1.at l_year
  replace l_month := k1.at l_month
  replace l_day := k1.at l_day
  replace l_hour := k1.at l_hour
  replace l_minute := k1.at l_minute
  replace l_half := k1.at l_half
  replace l_count := k1.at l_count
  replace l_clock := k1.at l_clock
  replace l_around := k1.at l_around
  replace l_word := k1.at l_word
  replace l_years := k1.at l_years
  replace l_months := k1.at l_months
  replace l_fields := k1.at l_fields
  replace l_stamp := k1.at l_stamp
  replace l_seen := k1.at l_seen
  replace l_eight := k1.at l_eight
  replace l_record := k1.at l_record
  replace l_due := k1.at l_due
  replace l_octets := k1.at l_octets
  have l_which := n_which; clear n_which
  clear F N; have F := F1; have N := N1; clear F1 N1 k1
  refine wpC_execs_cons (wpC_of ?_)
  refine' g14_ten hwh ⟨ym, hfv⟩ hfl l_fields l_years l_months l_which B F X N T hd hu (fun m1 h1 tk1 f2 ms2 dd2 hh2 mm2 ss2 b1 b2 b3 b4 b5 b6 hbad k1 n_fields F1 N1 => ?_)
  dsimp only
  replace c0 := c0.trans (k1.mono (by decide))
  replace l_cells := k1.at l_cells
  replace l_place := k1.at l_place
  replace l_head := k1.at l_head
  replace l_year := k1.at l_year
  replace l_month := k1.at l_month
  replace l_day := k1.at l_day
  replace l_hour := k1.at l_hour
  replace l_minute := k1.at l_minute
  replace l_half := k1.at l_half
  replace l_count := k1.at l_count
  replace l_clock := k1.at l_clock
  replace l_around := k1.at l_around
  replace l_word := k1.at l_word
  replace l_years := k1.at l_years
  replace l_months := k1.at l_months
  replace l_stamp := k1.at l_stamp
  replace l_seen := k1.at l_seen
  replace l_eight := k1.at l_eight
  replace l_record := k1.at l_record
  replace l_due := k1.at l_due
  replace l_octets := k1.at l_octets
  replace l_which := k1.at l_which
  have l_fields := n_fields; clear n_fields
  clear F N; have F := F1; have N := N1; clear F1 N1 k1
  refine abs1 N (fun nl11 N2 e0_11 up => ?_)
  clear N; have N := N2; clear N2
  replace hfl := up _ hfl
  replace sub := fun q (hq : q ∈ ((L + 1, co2) :: news)) => up q (sub q hq)
  clear up
  have hf2 := e0_11; clear e0_11
  refine wpC_execs_cons (wpC_of ?_)
  refine' g15_no   B F X N T hd hu (fun m1 h1 tk1 k1 n_refused F1 N1 => ?_)
  dsimp only
  replace c0 := c0.trans (k1.mono (by decide))
  replace l_cells := k1.at l_cells
  replace l_place := k1.at l_place
  replace l_head := k1.at l_head
  replace l_year := k1.at l_year
  replace l_month := k1.at l_month
  replace l_day := k1.at l_day
  replace l_hour := k1.at l_hour
  replace l_minute := k1.at l_minute
  replace l_half := k1.at l_half
  replace l_count := k1.at l_count
  replace l_clock := k1.at l_clock
  replace l_around := k1.at l_around
  replace l_word := k1.at l_word
  replace l_years := k1.at l_years
  replace l_months := k1.at l_months
  replace l_stamp := k1.at l_stamp
  replace l_seen := k1.at l_seen
  replace l_eight := k1.at l_eight
  replace l_record := k1.at l_record
  replace l_due := k1.at l_due
  replace l_octets := k1.at l_octets
  replace l_which := k1.at l_which
  replace l_fields := k1.at l_fields
  have l_refused := n_refused; clear n_refused
  clear F N; have F := F1; have N := N1; clear F1 N1 k1
  refine wpC_execs_cons (wpC_of ?_)
  refine' g15_bad hbad hf2 l_fields B F X N T hd hu (fun m1 h1 tk1 k1 n_refused F1 N1 => ?_)
  dsimp only
  replace c0 := c0.trans (k1.mono (by decide))
  replace l_cells := k1.at l_cells
  replace l_place := k1.at l_place
  replace l_head := k1.at l_head
  replace l_year := k1.at l_year
  replace l_month := k1.at l_month
  replace l_day := k1.at l_day
  replace l_hour := k1.at l_hour
  replace l_minute := k1.at l_minute
  replace l_half := k1.at l_half
  replace l_count := k1.at l_count
  replace l_clock := k1.at l_clock
  replace l_around := k1.at l_around
  replace l_word := k1.at l_word
  replace l_years := k1.at l_years
  replace l_months := k1.at l_months
  replace l_stamp := k1.at l_stamp
  replace l_seen := k1.at l_seen
  replace l_eight := k1.at l_eight
  replace l_record := k1.at l_record
  replace l_due := k1.at l_due
  replace l_octets := k1.at l_octets
  replace l_which := k1.at l_which
  replace l_fields := k1.at l_fields
  have l_refused := n_refused; clear n_refused
  clear F N; have F := F1; have N := N1; clear F1 N1 k1
  refine wpC_execs_cons (wpC_of ?_)
  refine' g15_end  l_refused B F X N T hd hu (fun m1 h1 tk1 k1 F1 N1 => ?_)
  dsimp only
  replace c0 := c0.trans (k1.mono (by decide))
  replace l_cells := k1.at l_cells
  replace l_place := k1.at l_place
  replace l_head := k1.at l_head
  replace l_year := k1.at l_year
  replace l_month := k1.at l_month
  replace l_day := k1.at l_day
  replace l_hour := k1.at l_hour
  replace l_minute := k1.at l_minute
  replace l_half := k1.at l_half
  replace l_count := k1.at l_count
  replace l_clock := k1.at l_clock
  replace l_around := k1.at l_around
  replace l_word := k1.at l_word
  replace l_years := k1.at l_years
  replace l_months := k1.at l_months
  replace l_stamp := k1.at l_stamp
  replace l_seen := k1.at l_seen
  replace l_eight := k1.at l_eight
  replace l_record := k1.at l_record
  replace l_due := k1.at l_due
  replace l_octets := k1.at l_octets
  replace l_which := k1.at l_which
  replace l_fields := k1.at l_fields
  replace l_refused := k1.at l_refused
  clear F N; have F := F1; have N := N1; clear F1 N1 k1
  refine wpC_execs_nil ?_
  exact ret _ _ _ _ _ hco2 c0 F (fun q hq => N q (sub q hq))
section
variable {M : Model} {A : Around} {s : Shared}
theorem codeC_loop {c : Code} {R : Flow → Shared → Prop} (hcalm : calm c = true) (hq : c.quiet = true) (I : Nat → Shared → Prop)
    (turn : ∀ n s, I n s → wpC M (A.under c) (M.den c)
      (fun fin s' => match fin with
        | .done f => R f s'
        | .again c' => (c' = c ∧ ∃ m, m < n ∧ I m s') ∨ (c'.quiet = true ∧ codeC M A c' R s')) s)
    (n : Nat) (h : I n s) : codeC M A c R s := by
  induction n using Nat.strongRecOn generalizing s with
  | ind n ih =>
    refine codeC_of_tree hcalm (wpC_mono (turn n s h) (fun fin s' hf => ?_))
    cases fin with
    | done f => exact hf
    | again c' =>
      rcases hf with ⟨rfl, m, hm, hI⟩ | hf
      · exact ⟨hq, ih m hm hI⟩
      · exact hf
end
section
variable {prog : Program} {A : Around} {s : Shared}
theorem codeC_forLoop {R : Flow → Shared → Prop} {target it body env} (I : Nat → Shared → Prop)
    (turn : ∀ n s, I n s → wpAny (model prog w) A (pyNext it) (fun r s₁ => match r with
      | none => R .next s₁
      | some v => wpAny (model prog w) A (assign target env v) (fun _ s₂ => wpC (model prog w) A (execs body env) (fun f s₃ => match f with
          | .next | .cont => ∃ m, m < n ∧ I m s₃
          | .brk => R .next s₃
          | .ret v => R (.ret v) s₃) s₂) (fun _ _ => False) s₁) (fun _ _ => False) s)
    (n : Nat) (h : I n s) (ht : ∀ v, letOwnedTupleGo target it v = pure () := by intro _; rfl) : codeC (model prog w) A (.forLoop target it body [] env) R s := by
  refine codeC_loop rfl rfl I (fun n s hI => ?_) n h
  show wpC _ _ ((forTurn target it body [] env).onRaise (fun x => do noteFrame x env; theTreesLotGoes x)) _ s
  refine wpC_onRaise ?_
  simp only [forTurn]
  refine wpC_bind (wpC_standAt (wpC_bind (wpC_onRaise (wpC_of (wpAny_mono (turn n s hI) (fun r s₁ h₁ => ?_) fun _ _ h' => h')))))
  cases r with
  | none => exact wpC_pure (.inr ⟨rfl, codeC_of (codeAny_block (wpAny_execs_nil h₁))⟩)
  | some v =>
    refine wpC_bind (wpC_of (wpAny_of_eq (ht v) ?_))
    refine wpC_bind (wpC_of (wpAny_mono h₁ (fun _ s₂ h₂ => wpC_bind (wpC_mono h₂ (fun f s₃ h₃ => ?_))) fun _ _ h' => h'))
    cases f with
    | next => exact wpC_pure (.inl ⟨rfl, h₃⟩)
    | cont => exact wpC_pure (.inl ⟨rfl, h₃⟩)
    | brk => exact wpC_pure h₃
    | ret v => exact wpC_pure h₃
theorem wpC_For {M : Model} {env : Env} {target iter body orelse pos} {Q : Flow → Shared → Prop}
    (h : wpAny M A (eval iter env) (fun x s₁ => wpAny M A (pyIter x) (fun it s₂ =>
      codeC M A (.forLoop target it body orelse env) Q s₂) (fun _ _ => False) s₁) (fun _ _ => False) s)
    (hs : ∀ x, foldedSetIterable iter env x = pure x := by intro _; rfl) :
    wpC M A (exec (.For target iter body orelse pos) env) Q s := by
  rw [exec_For]
  refine wpC_bind (wpC_standAt (wpC_bind (wpC_of (wpAny_mono h (fun x s₁ h₁ => ?_) fun _ _ h' => h'))))
  refine wpC_bind (wpC_of (wpAny_of_eq (hs x) ?_))
  refine wpC_bind (wpC_standAt (wpC_bind (wpC_holding (wpC_of (wpAny_mono h₁ (fun it s₂ h₂ => ?_) fun _ _ h' => h')))))
  unfold runOwn
  exact wpC_onRaise (wpC_run (h := none) h₂)
end
theorem small8n : ∀ k : Nat, k < 25 → 1 ≤ k → Builtin.Range.small 0 (k : Int) 8 = true ∧ Builtin.Range.rangeSize 0 (k : Int) 8 = (((k + 7) / 8 : Nat) : Int) ∧ (k + 7) / 8 ≤ 3 := by decide
theorem small8 {b : Int} (h : 1 ≤ b ∧ b ≤ 24) : Builtin.Range.small 0 b 8 = true ∧ ∃ n : Nat, Builtin.Range.rangeSize 0 b 8 = (n : Int) ∧ n ≤ 3 := by
  obtain ⟨k, rfl⟩ := Int.eq_ofNat_of_zero_le (show 0 ≤ b by omega)
  obtain ⟨h1, h2⟩ := small8n k (by omega) (by omega)
  exact ⟨h1, _, h2⟩
noncomputable abbrev itObj (x left : Int) : Obj := { cls := .type "range_iterator", data := .fields #[rawInt x, rawInt left, rawInt 8] }
theorem place_loop {R : Flow → Shared → Prop} {fa cd c I : Addr} {vs : List Value} {ns : List Int} {k n : Nat} {co : Obj} {v₀ : Option Value} {px : Pos} (hn3 : n ≤ 3) (hi : IntsAre vs ns) (hn : ns.length ≤ 24) (hc : (c, W.listOf vs.toArray k) ∈ news) (hco : co.data = .cell v₀) (hoff : ∀ p ∈ news, p.1 ≠ L + 1) (hI : ∀ p ∈ news, p.1 ≠ I) (hI1 : L + 1 ≠ I) (l_cells : m (Str.ofString "cells") = some (.ref c)) (B : Below A₀ h₀ [] h₀) (F : Fr h₀ L s.heap m) (X : (KK w.params).In h₀) (N : News h₀ L s.heap ((L + 1, co) :: (I, itObj (0 * 8) (n - 0)) :: news)) (T : Top VW LO mean mg mb h₀) (hd : dp + 80 < recursionLimit) (hu : un + 800 < cLine)
    (ret : ∀ m' h' tk', Fr h₀ L h' m' → News h₀ L h' news → R .next { s with heap := h', toks := tk' }) :
    codeC (model PR w) (ktrTop dp un (some []) (Str.ofString "law") f26S L fa (.ref cd) [(Str.ofString "start", L + 1)] []) (.forLoop (.Name (Str.ofString "place") px) (.ref I) lawB [] (envX (Str.ofString "law") f26S L fa (.ref cd) [(Str.ofString "start", L + 1)])) R s := by
  refine codeC_forLoop (fun j s' => ∃ (i : Nat) (h' : Heap) (tk' : Nat) (m' : Str → Option Value) (co2 : Obj) (v2 : Option Value), s' = { s with heap := h', toks := tk' } ∧ co2.data = .cell v2 ∧ m' (Str.ofString "cells") = some (.ref c) ∧ Fr h₀ L h' m' ∧ News h₀ L h' ((L + 1, co2) :: (I, itObj ((i : Int) * 8) (n - i)) :: news) ∧ i ≤ n ∧ j = n + 1 - i) ?_ (n + 1)
    ⟨0, s.heap, s.toks, m, co, v₀, rfl, hco, l_cells, F, N, Nat.zero_le _, rfl⟩
  rintro j s' ⟨i, h', tk', m', co2, v2, rfl, hco2, lc, F', N', hin, rfl⟩
  have gI := N' _ (List.mem_cons_of_mem _ List.mem_cons_self)
  have hit : IsRangeIter h' I ((i : Int) * 8) ((n : Int) - i) 8 := gI.1
  have hLI : L ≠ I := fun e => gI.2.1 e.symm
  have old : ∀ b o, h₀.get? b = some o → b ≠ I := fun b o e q => by have := gI.2.2; rw [← q, e] at this; cases this
  have fr : ∀ h2, Heap.ExtBut I h' h2 → Fr h₀ L h2 m' := fun h2 sb => ⟨F'.ns.at' fun o e => sb _ o hLI e, fun b o e => sb b o (old b o e) (F'.keep b o e), F'.above⟩
  have nw : ∀ h2, Heap.ExtBut I h' h2 → News h₀ L h2 ((L + 1, co2) :: news) := fun h2 sb p hp => by
    rcases List.mem_cons.mp hp with rfl | hp
    · exact ⟨sb _ _ hI1 (N' _ List.mem_cons_self).1, (N' _ List.mem_cons_self).2⟩
    · have g := N' p (List.mem_cons_of_mem _ (List.mem_cons_of_mem _ hp))
      exact ⟨sb _ _ (hI p hp) g.1, g.2⟩
  by_cases hlt : i < n
  · refine wpAny_pyNext_range_item hit (by omega) (fun h2 hit2 sb => ?_)
    have F2 := fr h2 sb.extBut
    have N2 : News h₀ L h2 ((L + 1, co2) :: (I, itObj (((i + 1 : Nat) : Int) * 8) (n - (i + 1 : Nat))) :: news) := fun p hp => by
      rcases List.mem_cons.mp hp with rfl | hp
      · exact nw h2 sb.extBut _ List.mem_cons_self
      rcases List.mem_cons.mp hp with rfl | hp
      · refine ⟨?_, gI.2⟩
        have e1 : (((i + 1 : Nat) : Int) * 8) = (i : Int) * 8 + 8 := by push_cast; omega
        have e2 : ((n : Int) - ((i + 1 : Nat) : Int)) = (n : Int) - i - 1 := by push_cast; omega
        rw [e1, e2]; exact hit2
      · exact nw h2 sb.extBut p (List.mem_cons_of_mem _ hp)
    dsimp only
    refine wpAny_assign_Name (wpAny_storeName_local (by rfl) F2.ns (fun h3 hn3 hs3 => ?_) (by rfl))
    have F3 := F2.set hn3 hs3
    have N3 := N2.set hs3
    refine' turn (p := (i : Int) * 8) hi ⟨by omega, by omega⟩ hn (List.mem_cons_of_mem _ hc) hco2 ?ho ?lc ?lp B F3 X N3 T hd hu (fun m4 h4 tk4 co4 v4 hd4 k4 F4 N4 => ?_)
    case ho =>
      intro p hp
      rcases List.mem_cons.mp hp with rfl | hp
      · exact fun e => hI1 e.symm
      · exact hoff p hp
    case lc => exact (if_neg (by decide)).trans lc
    case lp => exact if_pos rfl
    exact ⟨n + 1 - (i + 1), by omega, i + 1, h4, tk4, m4, co4, v4, rfl, hd4, k4.at ((if_neg (by decide)).trans lc), F4, N4, hlt, rfl⟩
  · refine wpAny_pyNext_range_end rfl hit (by omega) (fun h2 sb => ?_)
    exact ret _ _ _ (fr h2 sb) (fun p hp => nw h2 sb p (List.mem_cons_of_mem _ hp))
theorem g_for {QF : Flow → Shared → Prop} {fa cd : Addr} {c : Addr} {vs : List Value} {ns : List Int} {k : Nat} {co : Obj} {v₀ : Option Value} (hi : IntsAre vs ns) (hn : ns.length ≤ 24) (hc : (c, W.listOf vs.toArray k) ∈ news) (hco : co.data = .cell v₀) (hoff : ∀ p ∈ news, p.1 ≠ L + 1) (l_cells : m (Str.ofString "cells") = some (.ref c)) (B : Below A₀ h₀ [] h₀) (F : Fr h₀ L s.heap m) (X : (KK w.params).In h₀) (N : News h₀ L s.heap ((L + 1, co) :: news)) (T : Top VW LO mean mg mb h₀) (hd : dp + 80 < recursionLimit) (hu : un + 800 < cLine)
    (ret : ∀ m' h' tk' , Fr h₀ L h' m' → News h₀ L h' news → QF .next { s with heap := h', toks := tk' }) :
    wpC (model PR w) (ktrTop dp un (some []) (Str.ofString "law") f26S L fa (.ref cd) [(Str.ofString "start", L + 1)] []) (exec lawFor (envX (Str.ofString "law") f26S L fa (.ref cd) [(Str.ofString "start", L + 1)])) QF s := by
  have d0 : KtsDicts (([] : List Env).filterMap (·.frame)) h₀ := ktsDicts_nil
  have e0 : fo [(Str.ofString "cells", .ref c)] m = m := fo_cons (by assumption) fo_nil
  have k0 : Keep turnNames m (fo [(Str.ofString "cells", .ref c)] m) := Keep.of_eq e0
  replace F := e0.symm ▸ F
  clear e0
  have hc2 : (c, W.listOf vs.toArray k) ∈ ((L + 1, co) :: news) := List.mem_cons_of_mem _ hc
  have lc : fo [(Str.ofString "cells", .ref c)] m (Str.ofString "cells") = some (.ref c) := rfl
  dsimp only [lawFor, lit]
  refine wpC_For ?_
  k_steps
  all_goals (try k_data)
  refine len_ints_fit (News.isList N hc2) hi ?kf ?_
  case kf => omega
  k_steps
  all_goals (try k_data)
  (rename IsRange _ _ _ _ _ _ _ _ => hR); (rename Fr h₀ L _ (fo _ _) => F1); (rename News h₀ L _ ((L + 1, co) :: news) => N1)
  obtain ⟨hs, n, hsz, hn3⟩ := small8 (b := if 1 > (ns.length : Int) then 1 else (ns.length : Int)) (by split <;> omega)
  refine wpAny_pyIter_range hR hs ?_
  rw [hsz]
  have fresh : ∀ p ∈ (L + 1, co) :: news, p.1 ≠ _ := fun p hp => Nat.ne_of_lt (Heap.lt_size (N1 p hp).1)
  have N2 := N1.push F1 (itObj 0 n)
  refine place_loop (co := co) (v₀ := v₀) hn3 hi hn hc hco hoff (fun p hp => fresh p (List.mem_cons_of_mem _ hp)) (fresh _ List.mem_cons_self) lc B (F1.push _) X ?_ T hd hu (fun m' h' tk' F' N' => ret m' h' tk' F' N')
  intro p hp
  have e1 : (0 : Int) * 8 = 0 := rfl
  have e2 : (n : Int) - 0 = n := Int.sub_zero _
  rw [e1, e2] at hp
  rcases List.mem_cons.mp hp with rfl | hp
  · exact N2 _ (List.mem_cons_of_mem _ List.mem_cons_self)
  rcases List.mem_cons.mp hp with rfl | hp
  · exact N2 _ List.mem_cons_self
  · exact N2 _ (List.mem_cons_of_mem _ (List.mem_cons_of_mem _ hp))
noncomputable abbrev a0 : Stmt := lit (nthSt f26B 0) _ (by conv => lhs; whnf)
noncomputable abbrev a2 : Stmt := lit (nthSt f26B 2) _ (by conv => lhs; whnf)
theorem g0_cells {QF : Flow → Shared → Prop} {fa cd : Addr} {sa : Addr} {vs : List Value} {ns : List Int} (hs : h₀.IsList sa vs.toArray) (hi : IntsAre vs ns) (hz : ns.length ≤ 63) (l_script : m (Str.ofString "script") = some (.ref sa)) (B : Below A₀ h₀ [] h₀) (F : Fr h₀ L s.heap m) (X : (KK w.params).In h₀) (N : News h₀ L s.heap news) (T : Top VW LO mean mg mb h₀) (hd : dp + 80 < recursionLimit) (hu : un + 800 < cLine)
    (ret : ∀ m' h' tk' c ws ks k, IntsAre ws ks → ks.length ≤ 24 → (∀ p ∈ news, p.1 < c) → Keep [Str.ofString "cells"] m m' → m' (Str.ofString "cells") = some (.ref c) → Fr h₀ L h' m' → News h₀ L h' ((c, W.listOf ws.toArray k) :: news) → QF .next { s with heap := h', toks := tk' }) :
    wpAny (model PR w) (ktrTop dp un (some []) (Str.ofString "law") f26S L fa (.ref cd) [(Str.ofString "start", L + 1)] []) (exec a0 (envX (Str.ofString "law") f26S L fa (.ref cd) [(Str.ofString "start", L + 1)])) QF E s := by
  have d0 : KtsDicts (([] : List Env).filterMap (·.frame)) h₀ := ktsDicts_nil
  have e0 : fo [(Str.ofString "script", .ref sa)] m = m := fo_cons (by assumption) fo_nil
  have k0 : Keep [Str.ofString "cells"] m (fo [(Str.ofString "script", .ref sa)] m) := Keep.of_eq e0
  replace F := e0.symm ▸ F
  clear e0
  have hlen : vs.length = ns.length := hi.length
  have hs2 := F.lst hs
  dsimp only [a0, lit]
  k_steps
  all_goals (try k_data)
  all_goals (refine' ret _ _ _ _ _ _ _ ?g0 ?g1 ?g2 ?k ?q0 ?f ?n; walk_at "my:end"; (case q0 => exact rfl); (case g0 => assumption); (case g1 => (have hC := hi.length; omega)); (case g2 => assumption))
theorem g_ret {QF : Flow → Shared → Prop} {fa cd : Addr}    (B : Below A₀ h₀ [] h₀) (F : Fr h₀ L s.heap m) (X : (KK w.params).In h₀) (N : News h₀ L s.heap news) (T : Top VW LO mean mg mb h₀) (hd : dp + 80 < recursionLimit) (hu : un + 800 < cLine)
    (ret : ∀ tk', QF (.ret (.bool true)) { s with toks := tk' }) :
    wpAny (model PR w) (ktrTop dp un (some []) (Str.ofString "law") f26S L fa (.ref cd) [(Str.ofString "start", L + 1)] []) (exec a2 (envX (Str.ofString "law") f26S L fa (.ref cd) [(Str.ofString "start", L + 1)])) QF E s := by
  have d0 : KtsDicts (([] : List Env).filterMap (·.frame)) h₀ := ktsDicts_nil
  have k0 : Keep [] m m := Keep.of_eq rfl
  dsimp only [a2, lit]
  k_steps
  all_goals (try k_data)
  all_goals exact ret _
theorem law_body {QF : Flow → Shared → Prop} {fa cd : Addr} {sa : Addr} {vs : List Value} {ns : List Int} {co : Obj} {v₀ : Option Value} (hs : h₀.IsList sa vs.toArray) (hi : IntsAre vs ns) (hz : ns.length ≤ 63) (hco : co.data = .cell v₀) (l_script : m (Str.ofString "script") = some (.ref sa)) (B : Below A₀ h₀ [] h₀) (F : Fr h₀ L s.heap m) (X : (KK w.params).In h₀) (N : News h₀ L s.heap [(L + 1, co)]) (T : Top VW LO mean mg mb h₀) (hd : dp + 80 < recursionLimit) (hu : un + 800 < cLine)
    (ret : ∀ m' h' tk', Fr h₀ L h' m' → News h₀ L h' [] → QF (.ret (.bool true)) { s with heap := h', toks := tk' }) :
    wpC (model PR w) (ktrTop dp un (some []) (Str.ofString "law") f26S L fa (.ref cd) [(Str.ofString "start", L + 1)] []) (execs f26B (envX (Str.ofString "law") f26S L fa (.ref cd) [(Str.ofString "start", L + 1)])) QF s := by
  show wpC _ _ (execs [a0, lawFor, a2] _) _ _
  refine wpC_execs_cons (wpC_of ?_)
  refine' g0_cells hs hi hz l_script B F X N T hd hu (fun m1 h1 tk1 c ws ks k hi1 hk1 lt1 k1 lc F1 N1 => ?_)
  dsimp only
  refine wpC_execs_cons ?_
  have off : ∀ p ∈ [(c, W.listOf ws.toArray k)], p.1 ≠ L + 1 := fun p hp e => by
    rw [List.mem_singleton.mp hp] at e
    have := lt1 _ List.mem_cons_self
    exact absurd this (by rw [show c = L + 1 from e]; exact Nat.lt_irrefl _)
  have N2 : News h₀ L h1 ((L + 1, co) :: [(c, W.listOf ws.toArray k)]) := fun p hp => by
    rcases List.mem_cons.mp hp with rfl | hp
    · exact N1 _ (List.mem_cons_of_mem _ List.mem_cons_self)
    · rw [List.mem_singleton.mp hp]; exact N1 _ List.mem_cons_self
  refine' g_for hi1 hk1 List.mem_cons_self hco off lc B F1 X N2 T hd hu (fun m2 h2 tk2 F2 N3 => ?_)
  dsimp only
  refine wpC_execs_cons (wpC_of ?_)
  refine' g_ret B F2 X N3 T hd hu (fun tk3 => ?_)
  exact ret _ _ _ F2 (fun p hp => nomatch hp)
/-! ## the bridge from a walk at the caller's own stack -/
theorem wp_of_wpC_done {M : Model} {t : Sem Fin} {R : Result → Shared → Prop} {s : Shared} (h : wpC M callerA t (fun fin s' => ∃ f, fin = .done f ∧ R (.ok f) s') s) (p : Pos) :
    Sem.wp M ⟨.builtin "claim.caller" {}, none, none, [], none⟩ t (Sem.finPost M ⟨.builtin "claim.caller" {}, none, none, [], none⟩ R) (fun e _ s' => R (.error e) s') p s := by
  refine Sem.wp_mono M _ t (fun fin p' s' h' => ?_) (fun _ _ _ h' => h'.elim) p s (h _ p caller_in (by decide) (fun x hx => nomatch hx))
  obtain ⟨f, rfl, hf⟩ := h'
  exact hf
theorem thread_endsC {prog : Program} {w : World} {t : Sem Fin} {s : Shared} {R : Result → Shared → Prop} (hreg : s.asleep)
    (h : wpC (model prog w) callerA t (fun fin s' => ∃ f, fin = .done f ∧ (R (.ok f) s' ∧ leftWithCleanup s'.gens = false)) s) :
    ∃ n r s' s'', runN (denote table) prog w n s ⟨t, .builtin "claim.caller" {}, default, []⟩ = .halted (outcomeOf r) s' ∧
      schedN (denote table) prog w n (.single s ⟨t, .builtin "claim.caller" {}, default, []⟩) = .halted (outcomeOf r) s' ∧ s'.forget = s''.forget ∧ R r s'' := by
  obtain ⟨n, r, s₁, s₂, hs, hn, hfo, hR⟩ := wp_halts_full (M := model prog w) (R := R) hreg (wp_of_wpC_done (R := fun r s' => R r s' ∧ leftWithCleanup s'.gens = false) h default)
  exact ⟨n, r, s₂, s₁, hn, hs, hfo, hR⟩
theorem callFromC {c : ClaimW} {tree : List Value → Sem Fin} {w : World} {s : Shared} {free : Addr → Prop} {gens : Prop} {kept : Heap → Prop} (hz : s.asleep) (hgens : s.gens = #[])
    (hspec : ∀ args, c.pre args = true → WData.layableAll args = true →
      ∀ ord : List DictEntry → List DictEntry, (∀ l, (ord l).Perm l) →
      ∃ vs s₁, layAllW c.records (classAt s.heap) w.params ord args s = some (vs, s₁) ∧
        wpC (model c.prog w) callerA (tree vs) (fun fin s' => ∃ f, fin = .done f ∧ (c.Ends s args vs s₁ (.ok f) s' ∧ s'.os = s.os ∧ AllBare s'.gens ∧ kept s'.heap)) s₁) :
    c.CallFrom (fun vs => ⟨tree vs, .builtin "claim.caller" {}, default, []⟩) w free gens kept s := by
  intro args hpre hlay ord hord
  obtain ⟨vs, s₁, hlaid, hcode⟩ := hspec args hpre hlay ord hord
  have hal := layAllW_rest _ _ _ hlaid
  obtain ⟨k, r, s', s'', hrun, hsched, hfo, hcase, hos, hkp⟩ := thread_endsC (prog := c.prog) (w := w) (t := tree vs) (s := s₁)
    (R := fun r s' => c.Ends s args vs s₁ r s' ∧ s'.os = s.os ∧ kept s'.heap)
    (Shared.asleep_of_life hal.2.2.2 hz)
    (wpC_mono hcode (by
      rintro fin s' ⟨f, e, h1, h2, h3, h4⟩
      exact ⟨f, e, ⟨h1, h2, h4⟩, leftWithCleanup_false_of_bare h3⟩))
  obtain ⟨eh, _, _, eo, _⟩ := Shared.forget_eq hfo
  have hcase := hcase.congr eh
  have hkp : kept s'.heap := by first | exact eh ▸ hkp | (rw [eh] at hkp; exact hkp) | (rw [← eh] at hkp; exact hkp)
  rw [← eo] at hos
  have hlife : s'.heap.life = s.heap.life := (runN_life _ _ _ hrun).trans hal.2.2.2
  refine ⟨vs, s₁, hlaid, k, _, s', hsched, ?_, (fun _ i x hx => by rw [hgens] at hx; simp at hx), hkp, by rw [hlife], Shared.rest_eq hos⟩
  rcases hcase with ⟨v, rfl, d1, d2, d3, d4, d5⟩ | ⟨e, ob, cls, rfl, d1, d2, d3, d4, d5⟩
  · exact .inl ⟨v, rfl, d1, d2, d3, fun b o y _ => d4 b o y, d5⟩
  · exact .inr ⟨e, ob, cls, rfl, d1, d2, d3, d4, fun b o y _ => d5 b o y⟩
abbrev WalkC (q : Program) (loose : List Str) (XP : (Str → Option Value) → Heap → Prop) (YP : World → Heap → Prop) (r : RowW) (d : DefRec) (kwd : List (Str × PySem.Expr)) : Prop :=
  ∀ (w : World) (s₀ s₁ : Shared) (mg mb : Str → Option Value), Ground q loose r.records XP w s₀ mg mb s₁.heap → YP w s₁.heap → ∀ (a : Addr) (o : Obj) (pm cd doc dV kV : Value), s₁.heap.get? a = some o →
    o.data = .func { docDef d.name d.params d.body d.scope pm cd doc with defaults := dV, kwdefaults := kV } → s₁.heap.CodeRec cd d.name → Dflts mg s₁.heap d.params kwd dV kV → mg d.name = some (.ref a) → s₁.gens = #[] →
    ∀ (args : List WData) (vals : List Value) (as : List Addr), r.claim.pre args = true → WData.layableAll args = true → ReadsAllW r.records (classAt s₀.heap) s₁.heap vals args as → WellAll w.params s₁.heap vals args → (∀ a ∈ as, (a == sysModules) = false) →
      wpC (model r.prog w) callerA (PySem.call (.ref a) vals) (fun v s' => GoodWG r.claim (classAt s₀.heap) (ExcName.means s₀.heap) args s₁ (.ok (.ret v)) s') s₁
theorem openC {r : RowW} {tree : List Value → Sem Fin} {q : Program} {loose defs kps : List Str} {writes : Bool} {Xt : Shared → Bool} {XP : (Str → Option Value) → Heap → Prop} {α : Type} {Yf : Shared → α} {Ya : World → α} {YP : World → Heap → Prop} {N : Nat}
    (left : LeftO r.prog q loose Xt Yf Ya N) (hY : ∀ w s, Yf s = Ya w → YP w s.heap) (hYk : ∀ w h h', YP w h → (∀ b o, h.get? b = some o → h'.get? b = some o) → YP w h') (hX : ∀ s, Xt s = true → XP (s.heap.nsMap mainGlobals) s.heap) (hXk : ∀ mg h h', XP mg h → (∀ b o, h.get? b = some o → h'.get? b = some o) → XP mg h')
    (hRf : ∀ s, Xt s = true → RecFacts r.records s.heap) (hwr : (!writes || r.records.isEmpty) = true) (ok : (chainsOk q && opensWell r.prog && (frees r && r.within.isEmpty)) = true) (hb : r.prog.bare) (hw : r.promised)
    (ht : ∀ vs (w : World) (s : Shared) mg f (Q : Fin → Shared → Prop), s.heap.Ns mainGlobals mg → mg r.name = some f → wpC (model r.prog w) callerA (PySem.call f vs) (fun v s' => Q (.done (.ret v)) s') s → wpC (model r.prog w) callerA (tree vs) Q s)
    (pin : ∀ w s, s.heap.isNs mainGlobals = true → Ground q loose [] XP w s (s.heap.nsMap mainGlobals) (s.heap.nsMap builtinsNs) s.heap → ∀ n ∈ defs, isTheDefsW r.prog s.heap n)
    (call : ∀ (w : World) (s₀ s₁ : Shared) (mg mb : Str → Option Value), Ground q loose r.records XP w s₀ mg mb s₁.heap → YP w s₁.heap → ∀ (args : List WData) (vs : List Value) (as : List Addr),
      r.claim.pre args = true → WData.layableAll args = true → Laid r.records w s₀ s₁ args vs as → sysModules < s₀.heap.objs.size → ∃ f, mg r.name = some f ∧
        wpC (model r.prog w) callerA (PySem.call f vs) (fun v s' => GoodWG r.claim (classAt s₀.heap) (ExcName.means s₀.heap) args s₁ (.ok (.ret v)) s') s₁) : r.claim.HoldsOpenBy (fun vs => ⟨tree vs, .builtin "claim.caller" {}, default, []⟩) defs kps writes := by
  obtain ⟨ok, k5⟩ := Bool.and_eq_true_iff.mp ok
  obtain ⟨hch, o1⟩ := Bool.and_eq_true_iff.mp ok
  obtain ⟨k5, k6⟩ := Bool.and_eq_true_iff.mp k5
  obtain ⟨hsame, hu, ha, hap, hm⟩ := frees_parts k5
  refine ⟨⟨hb, o1, by show r.makers.map _ = []; rw [hm]; rfl⟩, hw.witness, fun w => ⟨(left.behind hX hch w).1, fun s' hs' => ?_⟩⟩
  obtain ⟨s₀, hf, hg0, s, hT, hz, hgens, hg, G00, y⟩ := (left.behind (XP := fun mg h => XP mg h ∧ RecFacts r.records h) (fun s hs => ⟨hX s hs, hRf s hs⟩) hch w).2 s' hs'
  have G0 : Ground q loose [] XP w s (s.heap.nsMap mainGlobals) (s.heap.nsMap builtinsNs) s.heap := ⟨G00.T, G00.B, G00.D, G00.TE, G00.TD, G00.W, G00.X.1, G00.cls, G00.has, G00.apart, G00.once, G00.K⟩
  have RF := G00.X.2
  have hT' := hT
  refine ⟨s₀, hf, hg0, s, hT, pin w s hg G0, RF.1, RF.2.1, ?_⟩
  have hgens : s.gens = #[] := Array.eq_empty_of_size_eq_zero (beq_iff_eq.mp hgens)
  have G : Ground q loose r.records XP w s _ _ s.heap := RF.ground G0
  refine callFromC (c := r.claim) hz hgens fun args hpre hlay ord hord => ?_
  obtain ⟨⟨vs, s₁⟩, hlaid⟩ := Option.isSome_iff_exists.mp (layAllW_isSome (P := w.params) (ord := ord) G.has args r.args s (pre_splitW hpre).1)
  have keeps := layAllW_keeps _ _ _ hlaid
  have hal := layAllW_rest _ _ _ hlaid
  obtain ⟨as, hrd, hin, hold⟩ := reads_layAllW hord _ _ _ hlaid hlay s₁.heap (fun _ _ e => e)
  have L : Laid r.records w s s₁ args vs as := ⟨⟨ord, hord, hlaid⟩, hrd, hin, hold, keeps, hal.1.trans hgens, hal.2.2.1⟩
  have G₁ := G.keeps hXk keeps
  obtain ⟨f, hf, h⟩ := call w s s₁ _ _ G₁ (hYk _ _ _ (hY w s y) keeps) args vs as hpre hlay L G.low
  have hi := ident_freeW hu ha hap
  have hwi : r.claim.within = [] := List.isEmpty_iff.mp k6
  exact ⟨vs, s₁, hlaid, ht vs w s₁ _ f _ G₁.T.g hf (wpC_mono h (fun v s' g => ⟨_, rfl, have z := g.laid (c := r.claim) hsame hwi hi L; ⟨z.1, z.2.1, z.2.2, fun q => ⟨namesKept_of hT' hg kps keeps g.2.1.old, noTable hwr q⟩⟩⟩))⟩
theorem holdsC {r : OpenRow} {q : Program} {loose : List Str} {Xt : Shared → Bool} {XP : (Str → Option Value) → Heap → Prop} {α : Type} {Yf : Shared → α} {Ya : World → α} {YP : World → Heap → Prop} {d : DefRec} {kwd : List (Str × PySem.Expr)} {N : Nat}
    (left : LeftO r.prog q loose Xt Yf Ya N) (hY : ∀ w s, Yf s = Ya w → YP w s.heap) (hYk : ∀ w h h', YP w h → (∀ b o, h.get? b = some o → h'.get? b = some o) → YP w h')
    (hX : ∀ s, Xt s = true → XP (s.heap.nsMap mainGlobals) s.heap) (hXk : ∀ mg h h', XP mg h → (∀ b o, h.get? b = some o → h'.get? b = some o) → XP mg h')
    (hdef : defOf q r.name = some (d, kwd)) (hp : r.prog.theDef r.name = some (d.params, d.body, d.scope)) (hk : kwWritten? d.params.kwonlyargs d.params.kw_defaults = some kwd) (hRf : ∀ s, Xt s = true → RecFacts r.records s.heap) (hwr : (!r.writes || r.records.isEmpty) = true)
    (k1 : r.wellSaid = true) (ok : (chainsOk q && opensWell r.prog && (frees r.toRowW && r.within.isEmpty)) = true) (hb : r.prog.bare) (hw : r.toRowW.promised)
    (call : WalkC q loose XP YP r.toRowW d kwd) : r.Holds := by
  refine ⟨k1, hw, openC (r := r.toRowW) (tree := fun vs => do match ← nsGet mainNs r.name with
      | some f => do ret (← PySem.call f vs)
      | none => unsupported "claim.caller:no-such-global") left hY hYk hX hXk hRf hwr ok hb hw
    (fun vs w s mg f Q hg hf h => wpC_bind (wpC_of (wpAny_nsGet hg (by rw [hf]; exact wpC_bind (wpC_mono h (fun _ _ x => wpC_pure x))))))
    (fun w s hg G n hn => ?_) fun w s₀ s₁ mg mb G Y args vs as hpre hlay L low => ?_⟩
  · obtain rfl : n = r.name := by split at hn <;> simp_all
    exact pinned_of_view hg G hdef hp hk
  · obtain ⟨a, o, pm, cd, doc, dV, kV, h1, h2, h3, h4, h5⟩ := G.fn hdef
    exact ⟨.ref a, h1, call w s₀ s₁ mg mb G Y a o pm cd doc dV kV h2 h3 h4 h5 (defOf_name hdef ▸ h1) L.gens args vs as hpre hlay L.reads L.well (L.low low)⟩
theorem hdC (walk : WalkC VW LO (XL VW []) HK.says PySem.Challenge.rw_jj0020_02.row.toRowW lawD []) : PySem.Challenge.rw_jj0020_02.Holds := by
  refine holds_law said fun said => ?_
  refine holdsC (q := VW) (loose := LO) (Xt := fun s => xlAt VW [] s && recOk [] s) (XP := XL VW []) (Yf := HK.obs) (Ya := HK.val) (YP := HK.says) (N := 6500) (d := lawD) (kwd := []) left1 HK.of HK.keeps (fun s e => xl_of s (Bool.and_eq_true_iff.mp e).1) XL.keeps ?_ ?_ ?_ (fun s e => recFacts_of (Bool.and_eq_true_iff.mp e).2) (by rfl) said ?_ ⟨rfl, rfl, rfl, rfl, rfl, by decide +kernel⟩ ?hw walk
  · kernel_rfl
  · kernel_rfl
  · kernel_rfl
  · decide +kernel
  case hw => w_witness2
theorem callC_cells {prog : Program} {w : World} {A : Around} {R : Flow → Shared → Prop} {s : Shared} {name : Str} {params : Arguments} {body : List Stmt} {scope : Scope}
    {pm cd doc : Value} {a : Addr} {o : Obj} {args : List Value} {binds : List (Str × Value)}
    (hroom : A.depth < recursionLimit) (ho : s.heap.get? a = some o) (hdata : o.data = .func (Calls.docDef name params body scope pm cd doc)) (hlim : s.heap.NoLimit) (hcd : s.heap.CodeRec cd name)
    (hbind : bindArgs (Calls.docDef name params body scope pm cd doc) ⟨args, []⟩ = pure binds)
    (hkind : ∀ x ∈ binds, scope.names.lookup x.1 = some .local ∨ (scope.names.lookup x.1 = some .cell ∧ ((cellsFrom (s.heap.objs.size + 1) scope.names []).lookup x.1).isSome = true))
    (h : ∀ h₁ tk, Fr s.heap s.heap.objs.size h₁ (bindL (envOfC name scope s.heap.objs.size a cd).kindOf binds fun _ => none) →
      Cl s.heap.objs.size (cellsFrom (s.heap.objs.size + 1) scope.names []) h₁ (bindC (envOfC name scope s.heap.objs.size a cd).kindOf binds fun _ => none) →
      wpC (model prog w) (A.deeper (envOfC name scope s.heap.objs.size a cd)) (execs body (envOfC name scope s.heap.objs.size a cd))
        (fun f s' => R (.ret (match f with | .ret v => v | _ => .none)) s') { s with heap := h₁, toks := tk })
    (hco : scope.isCoroutine = false := by rfl) (hgen : scope.isGenerator = false := by rfl) (hk : scope.kind = .function := by rfl) :
    codeC (model prog w) A (.call (.ref a) ⟨args, []⟩) R s := by
  refine codeC_call_def (fd := Calls.docDef name params body scope pm cd doc) (body := body) (binds := binds)
    (EnvP := fun e s₂ => e = envOfC name scope s.heap.objs.size a cd ∧ ∃ h₁ tk, s₂ = { s with heap := h₁, toks := tk } ∧ Fr s.heap s.heap.objs.size h₁ (bindL (envOfC name scope s.heap.objs.size a cd).kindOf binds fun _ => none) ∧
      Cl s.heap.objs.size (cellsFrom (s.heap.objs.size + 1) scope.names []) h₁ (bindC (envOfC name scope s.heap.objs.size a cd).kindOf binds fun _ => none))
    hroom ho hdata hlim hcd rfl (BindsTo.of_eq hbind) hco hgen ?_ ?_
  · refine wpAny_newFunctionEnv_cells hk hkind fun env he s' X => ?_
    subst he
    obtain ⟨h₁, tk, rfl, _⟩ := X.done
    exact ⟨hlim.keeps X.toInCall.keep, rfl, h₁, tk, rfl, ⟨X.toInCall.ns, X.toInCall.keep, X.toInCall.fresh⟩, ⟨X.cell, X.apart, X.above⟩⟩
  · rintro _ _ ⟨rfl, h₁, tk, rfl, F, C⟩
    exact h h₁ tk F C
theorem walkC : WalkC VW LO (XL VW []) HK.says PySem.Challenge.rw_jj0020_02.row.toRowW lawD [] := by
  intro w s₀ s₁ mg mb G Y fa o pm cd doc dV kV ho hd hcd hD hmg hg args vals as hpre hlay hrd hwl hlo
  have KX := kIn_of Y
  refine Ground.open G ?_
  intro T B D TE TW
  obtain ⟨_, _, he, B0⟩ := based_of_top T rfl hmg ho hd
  have he' : cd = _ := he
  subst he'
  clear he hmg
  wrow_args hpre hlay hrd hwl hlo
  (rename IntsAre _ _ => hI); (rename Heap.IsList _ _ _ => hL); (rename ¬ _ < _ => hlen)
  obtain rfl := hD.none rfl
  obtain rfl := hD.noKw
  refine wpC_call (callC_cells (name := lawD.name) (params := lawD.params) (body := lawD.body) (scope := lawD.scope) ?room ho hd T.nolimit hcd rfl ?kind (fun h₁ tk F C => ?_))
  case room => exact of_decide_eq_true rfl
  case kind =>
    intro x hx
    rcases List.mem_singleton.mp (show x ∈ [(Str.ofString "script", _)] from hx) with rfl
    exact .inl rfl
  have hlen' : _ ≤ (63 : Nat) := Nat.le_of_not_lt (fun e => hlen (by exact_mod_cast e))
  obtain ⟨co, hco, hcd2⟩ := C.cell (Str.ofString "start") (s₁.heap.objs.size + 1) rfl
  have N : News s₁.heap s₁.heap.objs.size h₁ [(s₁.heap.objs.size + 1, co)] := fun p hp => by
    rw [List.mem_singleton.mp hp]
    refine ⟨hco, fun e => absurd e (Nat.succ_ne_self _), ?_⟩
    cases q : s₁.heap.get? (s₁.heap.objs.size + 1) with
    | none => rfl
    | some o => exact absurd (Nat.lt_of_succ_lt (Heap.lt_size q)) (Nat.lt_irrefl _)
  refine law_body (s := { s₁ with heap := h₁, toks := tk }) hL hI hlen' hcd2 ?ls (below_caller _) F KX N T ?hd ?hu (fun m' h' tk' F' N' => ?_)
  case ls => rfl
  case hd => exact of_decide_eq_true rfl
  case hu => exact of_decide_eq_true rfl
  dsimp only
  have FK := F'.keep
  refine GoodW.toG ?_
  wrow_close
end Mine
theorem PySem.Challenge.cw_jj0020_02_holds : PySem.Challenge.rw_jj0020_02.Holds :=
  Mine.hdC Mine.walkC
