section
-- ===== PART A: goes FIRST, ahead of the names: the tables' words, and 'selects' of the private methods out of them =====
/-- a private method of a class that the tables say can be made, by its rows of tables_1 -/
def lw_okq (q : MethodName × Nat) : Prop := (q.1.cls ≠ "java/lang/invoke/MethodHandle" ∧ q.1.cls ≠ "java/lang/invoke/VarHandle") ∧ Cond.instantiable q.1.cls q.2 ∈ tables_1 ∧ Cond.privateMethod q.1 ∈ tables_1 ∧ Cond.instanceMethod q.1 ∈ tables_1
set_option maxRecDepth 100000
theorem lw_t1 {w : Cond} (h : w ∈ tables_1_1) : w ∈ tables_1 := List.mem_append_left _ h
theorem lw_t2 {w : Cond} (h : w ∈ tables_1_2) : w ∈ tables_1 := List.mem_append_right _ h
theorem lw_p0 : lw_okq (⟨"java/lang/Throwable", "fillInStackTrace", "(I)Ljava/lang/Throwable;"⟩, 6) := ⟨⟨by decide +kernel, by decide +kernel⟩, lw_t1 (List.mem_of_getElem? (i := 135) rfl), lw_t1 (List.mem_of_getElem? (i := 133) rfl), lw_t1 (List.mem_of_getElem? (i := 134) rfl)⟩
theorem lw_p1 : lw_okq (⟨"ErrorCorrection", "runEuclideanAlgorithm", "(LModulusPoly;LModulusPoly;I)[LModulusPoly;"⟩, 1) := ⟨⟨by decide +kernel, by decide +kernel⟩, lw_t1 (List.mem_of_getElem? (i := 22) rfl), lw_t1 (List.mem_of_getElem? (i := 234) rfl), lw_t1 (List.mem_of_getElem? (i := 235) rfl)⟩
theorem lw_p2 : lw_okq (⟨"ErrorCorrection", "findErrorLocations", "(LModulusPoly;)[I"⟩, 1) := ⟨⟨by decide +kernel, by decide +kernel⟩, lw_t1 (List.mem_of_getElem? (i := 22) rfl), lw_t2 (List.mem_of_getElem? (i := 55) rfl), lw_t2 (List.mem_of_getElem? (i := 56) rfl)⟩
theorem lw_p3 : lw_okq (⟨"ErrorCorrection", "findErrorMagnitudes", "(LModulusPoly;LModulusPoly;[I)[I"⟩, 1) := ⟨⟨by decide +kernel, by decide +kernel⟩, lw_t1 (List.mem_of_getElem? (i := 22) rfl), lw_t2 (List.mem_of_getElem? (i := 63) rfl), lw_t2 (List.mem_of_getElem? (i := 64) rfl)⟩
def lw_privs_1 : List (MethodName × Nat) := [(⟨"java/lang/Throwable", "fillInStackTrace", "(I)Ljava/lang/Throwable;"⟩, 6), (⟨"ErrorCorrection", "runEuclideanAlgorithm", "(LModulusPoly;LModulusPoly;I)[LModulusPoly;"⟩, 1), (⟨"ErrorCorrection", "findErrorLocations", "(LModulusPoly;)[I"⟩, 1), (⟨"ErrorCorrection", "findErrorMagnitudes", "(LModulusPoly;LModulusPoly;[I)[I"⟩, 1)]
theorem lw_r1 : ∀ q ∈ lw_privs_1, lw_okq q := List.forall_mem_cons.mpr ⟨lw_p0, List.forall_mem_cons.mpr ⟨lw_p1, List.forall_mem_cons.mpr ⟨lw_p2, List.forall_mem_cons.mpr ⟨lw_p3, fun _ h => absurd h List.not_mem_nil⟩⟩⟩⟩
def lw_privs : List (MethodName × Nat) := lw_privs_1
def lw_tbl : List Cond := k2_sels lw_privs ++ tables_1
theorem lw_privs_ok : ∀ q ∈ lw_privs, lw_okq q := lw_r1
-- ===== ONE list of words for every method: the tables' words that hold all through a run =====
def lw_all : List Cond := lw_tbl.filter goodWord
/-- a word of the tables by its place: claim/WORDS.tsv -/
theorem lw_w {w : Cond} (i : Nat) (h : lw_tbl[i]? = some w) (g : goodWord w = true) : w ∈ lw_all := List.mem_filter.mpr ⟨List.mem_of_getElem? h, g⟩
theorem lw_all_tbl {w : Cond} (h : w ∈ lw_all) : w ∈ lw_tbl := (List.mem_filter.mp h).1
theorem lw_self : GoodIn lw_all lw_all := fun w h => ⟨h, good_of_word (List.mem_filter.mp h).2⟩
/-- a class's field words, by their places -/
theorem lw_in (ws : List Cond) (ps : List Nat) (hp : ws = ps.filterMap (fun i => lw_tbl[i]?)) (hg : ws.all goodWord = true) : ∀ w ∈ ws, w ∈ lw_all := by
  intro w h
  have h1 := List.all_eq_true.mp hg w h
  rw [hp] at h
  obtain ⟨i, -, hi⟩ := List.mem_filterMap.mp h
  exact lw_w i hi h1
/-- the words of a contract for the method y with code b, L locals, answer r -/
abbrev ws_ (y : MethodName) (b : ByteArray) (L : Nat) (r : Option FieldType) : List Cond := Cond.code y b L r :: lw_all
theorem lw_meth {y : MethodName} {b : ByteArray} {L : Nat} {r : Option FieldType} (h : Cond.code y b L r ∈ lw_all) : GoodIn lw_all (ws_ y b L r) := by
  intro w hw
  rcases List.mem_cons.mp hw with e | e
  · rw [e]
    exact lw_self _ h
  · exact lw_self _ e
theorem lw_app {a c : List Cond} (ha : ∀ w ∈ a, w ∈ lw_all) (hc : GoodIn lw_all c) : GoodIn lw_all (a ++ c) := by
  intro w hw
  rcases List.mem_append.mp hw with e | e
  · exact lw_self w (ha w e)
  · exact hc w e
/-- what a call through an object asks: cwV n hts (lw_V ..) -/
theorem lw_V {own : String} {idx : Nat} {C : String} {y : MethodName} {b : ByteArray} {L : Nat} {r : Option FieldType} (h1 : Cond.methodLink own idx y ∈ lw_all) (h2 : Cond.instanceMethod y ∈ lw_all) (h3 : Cond.selects C y y ∈ lw_all) (h4 : Cond.initialized C ∈ lw_all) (h5 : Cond.code y b L r ∈ lw_all) : GoodIn lw_all (wsV own idx C y (ws_ y b L r)) := by
  refine lw_app ?_ (lw_meth h5)
  intro w hw
  simp only [List.mem_cons, List.not_mem_nil, or_false] at hw
  rcases hw with e | e | e | e
  · rw [e]; exact h1
  · rw [e]; exact h2
  · rw [e]; exact h3
  · rw [e]; exact h4
/-- what a static call asks: va_cwS n hts (lw_S ..) -/
theorem lw_S {own : String} {idx : Nat} {y : MethodName} {b : ByteArray} {L : Nat} {r : Option FieldType} (h1 : Cond.methodLink own idx y ∈ lw_all) (h2 : Cond.static y ∈ lw_all) (h3 : Cond.initialized y.cls ∈ lw_all) (h4 : Cond.code y b L r ∈ lw_all) : GoodIn lw_all (va_wsS own idx y (ws_ y b L r)) := by
  refine lw_app ?_ (lw_meth h4)
  intro w hw
  simp only [List.mem_cons, List.not_mem_nil, or_false] at hw
  rcases hw with e | e | e
  · rw [e]; exact h1
  · rw [e]; exact h2
  · rw [e]; exact h3
/-- the words of a contract for a method WITH HANDLERS (hh: its table) -/
abbrev wsW_ (y : MethodName) (b : ByteArray) (L : Nat) (r : Option FieldType) (hh : List (Nat × Nat × Nat × Nat)) : List Cond := Cond.codeWith y b L r hh :: lw_all
theorem lw_methW {y : MethodName} {b : ByteArray} {L : Nat} {r : Option FieldType} {hh : List (Nat × Nat × Nat × Nat)} (h : Cond.codeWith y b L r hh ∈ lw_all) : GoodIn lw_all (wsW_ y b L r hh) := by
  intro w hw
  rcases List.mem_cons.mp hw with e | e
  · rw [e]
    exact lw_self _ h
  · exact lw_self _ e
/-- any list of words by their places (lw_in), good -/
theorem lw_good {ws : List Cond} (h : ∀ w ∈ ws, w ∈ lw_all) : GoodIn lw_all ws := fun w hw => lw_self w (h w hw)
/-- what a call of a method with handlers asks: vx_cwVW n hts (lw_VW ..), vx_cwSW n hts (lw_SW ..) -/
theorem lw_VW {own : String} {idx : Nat} {C : String} {y : MethodName} {b : ByteArray} {L : Nat} {r : Option FieldType} {hh : List (Nat × Nat × Nat × Nat)} (h1 : Cond.methodLink own idx y ∈ lw_all) (h2 : Cond.instanceMethod y ∈ lw_all) (h3 : Cond.selects C y y ∈ lw_all) (h4 : Cond.initialized C ∈ lw_all) (h5 : Cond.codeWith y b L r hh ∈ lw_all) : GoodIn lw_all (wsV own idx C y (wsW_ y b L r hh)) := by
  refine lw_app ?_ (lw_methW h5)
  intro w hw
  simp only [List.mem_cons, List.not_mem_nil, or_false] at hw
  rcases hw with e | e | e | e
  · rw [e]; exact h1
  · rw [e]; exact h2
  · rw [e]; exact h3
  · rw [e]; exact h4
theorem lw_SW {own : String} {idx : Nat} {y : MethodName} {b : ByteArray} {L : Nat} {r : Option FieldType} {hh : List (Nat × Nat × Nat × Nat)} (h1 : Cond.methodLink own idx y ∈ lw_all) (h2 : Cond.static y ∈ lw_all) (h3 : Cond.initialized y.cls ∈ lw_all) (h4 : Cond.codeWith y b L r hh ∈ lw_all) : GoodIn lw_all (va_wsS own idx y (wsW_ y b L r hh)) := by
  refine lw_app ?_ (lw_methW h4)
  intro w hw
  simp only [List.mem_cons, List.not_mem_nil, or_false] at hw
  rcases hw with e | e | e
  · rw [e]; exact h1
  · rw [e]; exact h2
  · rw [e]; exact h3
/-- a word by its place in its run of the tables -/
theorem lw_at {r : List Cond} (hr : ∀ w ∈ r, w ∈ lw_tbl) {w : Cond} (i : Nat) (h : r[i]? = some w) : w ∈ lw_tbl := hr w (List.mem_of_getElem? h)
theorem lw_g {w : Cond} (h : w ∈ lw_tbl) (g : goodWord w = true) : w ∈ lw_all := List.mem_filter.mpr ⟨h, g⟩
theorem lw_ms : ∀ w ∈ k2_sels lw_privs, w ∈ lw_tbl := fun w h => show w ∈ k2_sels lw_privs ++ tables_1 from List.mem_append_left _ h
theorem lw_m1 : ∀ w ∈ tables_1_1, w ∈ lw_tbl := fun w h => show w ∈ k2_sels lw_privs ++ tables_1 from List.mem_append_right (k2_sels lw_privs) (show w ∈ tables_1 from List.mem_append_left _ h)
theorem lw_m2 : ∀ w ∈ tables_1_2, w ∈ lw_tbl := fun w h => show w ∈ k2_sels lw_privs ++ tables_1 from List.mem_append_right (k2_sels lw_privs) (show w ∈ tables_1 from List.mem_append_right _ h)
theorem qs0 : (Cond.selects "java/lang/Throwable" ⟨"java/lang/Throwable", "fillInStackTrace", "(I)Ljava/lang/Throwable;"⟩ ⟨"java/lang/Throwable", "fillInStackTrace", "(I)Ljava/lang/Throwable;"⟩) ∈ lw_all := lw_g (lw_at lw_ms 0 rfl) rfl
theorem qs1 : (Cond.selects "ErrorCorrection" ⟨"ErrorCorrection", "runEuclideanAlgorithm", "(LModulusPoly;LModulusPoly;I)[LModulusPoly;"⟩ ⟨"ErrorCorrection", "runEuclideanAlgorithm", "(LModulusPoly;LModulusPoly;I)[LModulusPoly;"⟩) ∈ lw_all := lw_g (lw_at lw_ms 1 rfl) rfl
theorem qs2 : (Cond.selects "ErrorCorrection" ⟨"ErrorCorrection", "findErrorLocations", "(LModulusPoly;)[I"⟩ ⟨"ErrorCorrection", "findErrorLocations", "(LModulusPoly;)[I"⟩) ∈ lw_all := lw_g (lw_at lw_ms 2 rfl) rfl
theorem qs3 : (Cond.selects "ErrorCorrection" ⟨"ErrorCorrection", "findErrorMagnitudes", "(LModulusPoly;LModulusPoly;[I)[I"⟩ ⟨"ErrorCorrection", "findErrorMagnitudes", "(LModulusPoly;LModulusPoly;[I)[I"⟩) ∈ lw_all := lw_g (lw_at lw_ms 3 rfl) rfl
end
section
/-! DECODE ROWS BY BYTES: one lemma an opcode; a method's code is cut into short pieces once, and a row reads its own piece alone. -/
set_option maxRecDepth 100000
/-- the code has just these bytes from pc on -/
def DkAt (code : ByteArray) (pc : Nat) (bs : List UInt8) : Prop := ∀ (j : Nat) (b : UInt8), bs[j]? = some b → code.data.toList[pc + j]? = some b
/-- the piece W has the bytes bs from its place j on -/
def dkIn (W : List UInt8) (j : Nat) (bs : List UInt8) : Bool := decide ((W.drop j).take bs.length = bs)
theorem dk_seg {l W T : List UInt8} {o o2 : Nat} (h : l.drop o = W ++ T) (n : Nat) (hn : W.length = n) (ho : o + n = o2) : l.drop o2 = T := by
  subst ho
  rw [← List.drop_drop, h, List.drop_left' hn]
theorem dk_at {code : ByteArray} {W T bs : List UInt8} {o pc : Nat} (h : code.data.toList.drop o = W ++ T) (j : Nat) (hp : o + j = pc) (hw : dkIn W j bs = true) : DkAt code pc bs := by
  subst hp
  intro i b e
  have h1 := of_decide_eq_true hw
  have h2 : i < bs.length := (List.getElem?_eq_some_iff.mp e).1
  have h3 : W[j + i]? = some b := by
    rw [← h1, List.getElem?_take, if_pos h2, List.getElem?_drop] at e
    exact e
  have h4 : j + i < W.length := (List.getElem?_eq_some_iff.mp h3).1
  have h5 : (code.data.toList.drop o)[j + i]? = some b := by
    rw [h, List.getElem?_append_left h4]
    exact h3
  rw [List.getElem?_drop, ← Nat.add_assoc] at h5
  exact h5
theorem dk_u1 {A : ByteArray} {p : Nat} {b : UInt8} (h : A.data.toList[p]? = some b) : (Reader.u1 : Reader DecodeError Nat) A p = .ok (b.toNat, p + 1) := by
  obtain ⟨h1, h2⟩ := List.getElem?_eq_some_iff.mp h
  have h3 : p < A.size := by simpa using h1
  have h4 : A[p]'h3 = b := h2
  have e : (Reader.u1 : Reader DecodeError Nat) A p = (if h : p < A.size then .ok (A[p].toNat, p + 1) else .error (HasTruncated.truncated p)) := by
    show (do if h : p < A.size then do set (p + 1); Pure.pure A[p].toNat else MonadExcept.throw (HasTruncated.truncated p) : Reader DecodeError Nat) A p = _
    by_cases hi : p < A.size
    · rw [dif_pos hi, dif_pos hi]; rfl
    · rw [dif_neg hi, dif_neg hi]; rfl
  rw [e, dif_pos h3, h4]
theorem dk_bind {α β : Type} {r : Reader DecodeError α} {f : α → Reader DecodeError β} {A : ByteArray} {p s : Nat} {a : α} (h : r A p = .ok (a, s)) : (r >>= f) A p = f a A s := by
  show (do let (a, s) ← r A p; f a A s : Except DecodeError (β × Nat)) = _
  rw [h]
  rfl
theorem dk_map {α β : Type} {r : Reader DecodeError α} {g : α → β} {A : ByteArray} {p s : Nat} {a : α} (h : r A p = .ok (a, s)) : (g <$> r) A p = .ok (g a, s) := by
  show (do let (a, s) ← r A p; .ok (g a, s) : Except DecodeError (β × Nat)) = _
  rw [h]
  rfl
theorem dk_u2 {A : ByteArray} {p : Nat} {a b : UInt8} (h : A.data.toList[p]? = some a) (h2 : A.data.toList[p + 1]? = some b) : (Reader.u2 : Reader DecodeError Nat) A p = .ok (a.toNat * 256 + b.toNat, p + 2) := by
  show (Reader.u1 >>= fun hi => Reader.u1 >>= fun lo => Pure.pure (hi * 256 + lo) : Reader DecodeError Nat) A p = _
  rw [dk_bind (dk_u1 h), dk_bind (dk_u1 h2)]
  rfl
theorem dk_of {code : ByteArray} {pc n : Nat} {i : Instr} (h : Decoder.instr pc code pc = .ok (i, pc + n)) : decode code pc = .ok (i, n) := by
  have e : decode code pc = (match Decoder.instr pc code pc with | .error x => .error x | .ok (j, s) => .ok (j, s - pc)) := by
    show (do let (j, s) ← Decoder.instr pc code pc; Pure.pure (j, s - pc) : Except DecodeError (Instr × Nat)) = _
    cases Decoder.instr pc code pc <;> rfl
  rw [e, h]
  show Except.ok (i, pc + n - pc) = _
  rw [Nat.add_sub_cancel_left]
theorem dk_2 {code : ByteArray} {pc : Nat} (h : DkAt code pc [2]) : decode code pc = .ok (.iconst (-1), 1) := dk_of ((dk_bind (dk_u1 (h 0 _ rfl))).trans rfl)
theorem dk_3 {code : ByteArray} {pc : Nat} (h : DkAt code pc [3]) : decode code pc = .ok (.iconst 0, 1) := dk_of ((dk_bind (dk_u1 (h 0 _ rfl))).trans rfl)
theorem dk_4 {code : ByteArray} {pc : Nat} (h : DkAt code pc [4]) : decode code pc = .ok (.iconst 1, 1) := dk_of ((dk_bind (dk_u1 (h 0 _ rfl))).trans rfl)
theorem dk_5 {code : ByteArray} {pc : Nat} (h : DkAt code pc [5]) : decode code pc = .ok (.iconst 2, 1) := dk_of ((dk_bind (dk_u1 (h 0 _ rfl))).trans rfl)
theorem dk_6 {code : ByteArray} {pc : Nat} (h : DkAt code pc [6]) : decode code pc = .ok (.iconst 3, 1) := dk_of ((dk_bind (dk_u1 (h 0 _ rfl))).trans rfl)
theorem dk_7 {code : ByteArray} {pc : Nat} (h : DkAt code pc [7]) : decode code pc = .ok (.iconst 4, 1) := dk_of ((dk_bind (dk_u1 (h 0 _ rfl))).trans rfl)
theorem dk_16 {code : ByteArray} {pc : Nat} (a : UInt8) (h : DkAt code pc [16, a]) : decode code pc = .ok (.bipush (Reader.signed 8 a.toNat), 2) := dk_of ((dk_bind (dk_u1 (h 0 _ rfl))).trans ((dk_bind (dk_map (dk_u1 (h 1 _ rfl)))).trans rfl))
theorem dk_17 {code : ByteArray} {pc : Nat} (a b : UInt8) (h : DkAt code pc [17, a, b]) : decode code pc = .ok (.sipush (Reader.signed 16 (a.toNat * 256 + b.toNat)), 3) := dk_of ((dk_bind (dk_u1 (h 0 _ rfl))).trans ((dk_bind (dk_map (dk_u2 (h 1 _ rfl) (h 2 _ rfl)))).trans rfl))
theorem dk_18 {code : ByteArray} {pc : Nat} (a : UInt8) (h : DkAt code pc [18, a]) : decode code pc = .ok (.ldc a.toNat, 2) := dk_of ((dk_bind (dk_u1 (h 0 _ rfl))).trans ((dk_bind (dk_u1 (h 1 _ rfl))).trans rfl))
theorem dk_21 {code : ByteArray} {pc : Nat} (a : UInt8) (h : DkAt code pc [21, a]) : decode code pc = .ok (.iload a.toNat, 2) := dk_of ((dk_bind (dk_u1 (h 0 _ rfl))).trans ((dk_bind (dk_u1 (h 1 _ rfl))).trans rfl))
theorem dk_25 {code : ByteArray} {pc : Nat} (a : UInt8) (h : DkAt code pc [25, a]) : decode code pc = .ok (.aload a.toNat, 2) := dk_of ((dk_bind (dk_u1 (h 0 _ rfl))).trans ((dk_bind (dk_u1 (h 1 _ rfl))).trans rfl))
theorem dk_27 {code : ByteArray} {pc : Nat} (h : DkAt code pc [27]) : decode code pc = .ok (.iload_n 1, 1) := dk_of ((dk_bind (dk_u1 (h 0 _ rfl))).trans rfl)
theorem dk_28 {code : ByteArray} {pc : Nat} (h : DkAt code pc [28]) : decode code pc = .ok (.iload_n 2, 1) := dk_of ((dk_bind (dk_u1 (h 0 _ rfl))).trans rfl)
theorem dk_29 {code : ByteArray} {pc : Nat} (h : DkAt code pc [29]) : decode code pc = .ok (.iload_n 3, 1) := dk_of ((dk_bind (dk_u1 (h 0 _ rfl))).trans rfl)
theorem dk_42 {code : ByteArray} {pc : Nat} (h : DkAt code pc [42]) : decode code pc = .ok (.aload_n 0, 1) := dk_of ((dk_bind (dk_u1 (h 0 _ rfl))).trans rfl)
theorem dk_43 {code : ByteArray} {pc : Nat} (h : DkAt code pc [43]) : decode code pc = .ok (.aload_n 1, 1) := dk_of ((dk_bind (dk_u1 (h 0 _ rfl))).trans rfl)
theorem dk_44 {code : ByteArray} {pc : Nat} (h : DkAt code pc [44]) : decode code pc = .ok (.aload_n 2, 1) := dk_of ((dk_bind (dk_u1 (h 0 _ rfl))).trans rfl)
theorem dk_45 {code : ByteArray} {pc : Nat} (h : DkAt code pc [45]) : decode code pc = .ok (.aload_n 3, 1) := dk_of ((dk_bind (dk_u1 (h 0 _ rfl))).trans rfl)
theorem dk_46 {code : ByteArray} {pc : Nat} (h : DkAt code pc [46]) : decode code pc = .ok (.iaload, 1) := dk_of ((dk_bind (dk_u1 (h 0 _ rfl))).trans rfl)
theorem dk_50 {code : ByteArray} {pc : Nat} (h : DkAt code pc [50]) : decode code pc = .ok (.aaload, 1) := dk_of ((dk_bind (dk_u1 (h 0 _ rfl))).trans rfl)
theorem dk_54 {code : ByteArray} {pc : Nat} (a : UInt8) (h : DkAt code pc [54, a]) : decode code pc = .ok (.istore a.toNat, 2) := dk_of ((dk_bind (dk_u1 (h 0 _ rfl))).trans ((dk_bind (dk_u1 (h 1 _ rfl))).trans rfl))
theorem dk_58 {code : ByteArray} {pc : Nat} (a : UInt8) (h : DkAt code pc [58, a]) : decode code pc = .ok (.astore a.toNat, 2) := dk_of ((dk_bind (dk_u1 (h 0 _ rfl))).trans ((dk_bind (dk_u1 (h 1 _ rfl))).trans rfl))
theorem dk_60 {code : ByteArray} {pc : Nat} (h : DkAt code pc [60]) : decode code pc = .ok (.istore_n 1, 1) := dk_of ((dk_bind (dk_u1 (h 0 _ rfl))).trans rfl)
theorem dk_61 {code : ByteArray} {pc : Nat} (h : DkAt code pc [61]) : decode code pc = .ok (.istore_n 2, 1) := dk_of ((dk_bind (dk_u1 (h 0 _ rfl))).trans rfl)
theorem dk_62 {code : ByteArray} {pc : Nat} (h : DkAt code pc [62]) : decode code pc = .ok (.istore_n 3, 1) := dk_of ((dk_bind (dk_u1 (h 0 _ rfl))).trans rfl)
theorem dk_76 {code : ByteArray} {pc : Nat} (h : DkAt code pc [76]) : decode code pc = .ok (.astore_n 1, 1) := dk_of ((dk_bind (dk_u1 (h 0 _ rfl))).trans rfl)
theorem dk_77 {code : ByteArray} {pc : Nat} (h : DkAt code pc [77]) : decode code pc = .ok (.astore_n 2, 1) := dk_of ((dk_bind (dk_u1 (h 0 _ rfl))).trans rfl)
theorem dk_78 {code : ByteArray} {pc : Nat} (h : DkAt code pc [78]) : decode code pc = .ok (.astore_n 3, 1) := dk_of ((dk_bind (dk_u1 (h 0 _ rfl))).trans rfl)
theorem dk_79 {code : ByteArray} {pc : Nat} (h : DkAt code pc [79]) : decode code pc = .ok (.iastore, 1) := dk_of ((dk_bind (dk_u1 (h 0 _ rfl))).trans rfl)
theorem dk_83 {code : ByteArray} {pc : Nat} (h : DkAt code pc [83]) : decode code pc = .ok (.aastore, 1) := dk_of ((dk_bind (dk_u1 (h 0 _ rfl))).trans rfl)
theorem dk_87 {code : ByteArray} {pc : Nat} (h : DkAt code pc [87]) : decode code pc = .ok (.pop, 1) := dk_of ((dk_bind (dk_u1 (h 0 _ rfl))).trans rfl)
theorem dk_89 {code : ByteArray} {pc : Nat} (h : DkAt code pc [89]) : decode code pc = .ok (.dup, 1) := dk_of ((dk_bind (dk_u1 (h 0 _ rfl))).trans rfl)
theorem dk_96 {code : ByteArray} {pc : Nat} (h : DkAt code pc [96]) : decode code pc = .ok (.iadd, 1) := dk_of ((dk_bind (dk_u1 (h 0 _ rfl))).trans rfl)
theorem dk_100 {code : ByteArray} {pc : Nat} (h : DkAt code pc [100]) : decode code pc = .ok (.isub, 1) := dk_of ((dk_bind (dk_u1 (h 0 _ rfl))).trans rfl)
theorem dk_104 {code : ByteArray} {pc : Nat} (h : DkAt code pc [104]) : decode code pc = .ok (.imul, 1) := dk_of ((dk_bind (dk_u1 (h 0 _ rfl))).trans rfl)
theorem dk_108 {code : ByteArray} {pc : Nat} (h : DkAt code pc [108]) : decode code pc = .ok (.idiv, 1) := dk_of ((dk_bind (dk_u1 (h 0 _ rfl))).trans rfl)
theorem dk_112 {code : ByteArray} {pc : Nat} (h : DkAt code pc [112]) : decode code pc = .ok (.irem, 1) := dk_of ((dk_bind (dk_u1 (h 0 _ rfl))).trans rfl)
theorem dk_122 {code : ByteArray} {pc : Nat} (h : DkAt code pc [122]) : decode code pc = .ok (.ishr, 1) := dk_of ((dk_bind (dk_u1 (h 0 _ rfl))).trans rfl)
theorem dk_126 {code : ByteArray} {pc : Nat} (h : DkAt code pc [126]) : decode code pc = .ok (.iand, 1) := dk_of ((dk_bind (dk_u1 (h 0 _ rfl))).trans rfl)
theorem dk_132 {code : ByteArray} {pc : Nat} (a b : UInt8) (h : DkAt code pc [132, a, b]) : decode code pc = .ok (.iinc a.toNat (Reader.signed 8 b.toNat), 3) := dk_of ((dk_bind (dk_u1 (h 0 _ rfl))).trans ((dk_bind (dk_u1 (h 1 _ rfl))).trans ((dk_bind (dk_map (dk_u1 (h 2 _ rfl)))).trans rfl)))
theorem dk_153 {code : ByteArray} {pc : Nat} (a b : UInt8) (h : DkAt code pc [153, a, b]) : decode code pc = .ok (.ifCond .eq (Reader.signed 16 (a.toNat * 256 + b.toNat)), 3) := dk_of ((dk_bind (dk_u1 (h 0 _ rfl))).trans ((dk_bind (dk_map (dk_u2 (h 1 _ rfl) (h 2 _ rfl)))).trans rfl))
theorem dk_154 {code : ByteArray} {pc : Nat} (a b : UInt8) (h : DkAt code pc [154, a, b]) : decode code pc = .ok (.ifCond .ne (Reader.signed 16 (a.toNat * 256 + b.toNat)), 3) := dk_of ((dk_bind (dk_u1 (h 0 _ rfl))).trans ((dk_bind (dk_map (dk_u2 (h 1 _ rfl) (h 2 _ rfl)))).trans rfl))
theorem dk_155 {code : ByteArray} {pc : Nat} (a b : UInt8) (h : DkAt code pc [155, a, b]) : decode code pc = .ok (.ifCond .lt (Reader.signed 16 (a.toNat * 256 + b.toNat)), 3) := dk_of ((dk_bind (dk_u1 (h 0 _ rfl))).trans ((dk_bind (dk_map (dk_u2 (h 1 _ rfl) (h 2 _ rfl)))).trans rfl))
theorem dk_156 {code : ByteArray} {pc : Nat} (a b : UInt8) (h : DkAt code pc [156, a, b]) : decode code pc = .ok (.ifCond .ge (Reader.signed 16 (a.toNat * 256 + b.toNat)), 3) := dk_of ((dk_bind (dk_u1 (h 0 _ rfl))).trans ((dk_bind (dk_map (dk_u2 (h 1 _ rfl) (h 2 _ rfl)))).trans rfl))
theorem dk_158 {code : ByteArray} {pc : Nat} (a b : UInt8) (h : DkAt code pc [158, a, b]) : decode code pc = .ok (.ifCond .le (Reader.signed 16 (a.toNat * 256 + b.toNat)), 3) := dk_of ((dk_bind (dk_u1 (h 0 _ rfl))).trans ((dk_bind (dk_map (dk_u2 (h 1 _ rfl) (h 2 _ rfl)))).trans rfl))
theorem dk_159 {code : ByteArray} {pc : Nat} (a b : UInt8) (h : DkAt code pc [159, a, b]) : decode code pc = .ok (.if_icmp .eq (Reader.signed 16 (a.toNat * 256 + b.toNat)), 3) := dk_of ((dk_bind (dk_u1 (h 0 _ rfl))).trans ((dk_bind (dk_map (dk_u2 (h 1 _ rfl) (h 2 _ rfl)))).trans rfl))
theorem dk_160 {code : ByteArray} {pc : Nat} (a b : UInt8) (h : DkAt code pc [160, a, b]) : decode code pc = .ok (.if_icmp .ne (Reader.signed 16 (a.toNat * 256 + b.toNat)), 3) := dk_of ((dk_bind (dk_u1 (h 0 _ rfl))).trans ((dk_bind (dk_map (dk_u2 (h 1 _ rfl) (h 2 _ rfl)))).trans rfl))
theorem dk_161 {code : ByteArray} {pc : Nat} (a b : UInt8) (h : DkAt code pc [161, a, b]) : decode code pc = .ok (.if_icmp .lt (Reader.signed 16 (a.toNat * 256 + b.toNat)), 3) := dk_of ((dk_bind (dk_u1 (h 0 _ rfl))).trans ((dk_bind (dk_map (dk_u2 (h 1 _ rfl) (h 2 _ rfl)))).trans rfl))
theorem dk_162 {code : ByteArray} {pc : Nat} (a b : UInt8) (h : DkAt code pc [162, a, b]) : decode code pc = .ok (.if_icmp .ge (Reader.signed 16 (a.toNat * 256 + b.toNat)), 3) := dk_of ((dk_bind (dk_u1 (h 0 _ rfl))).trans ((dk_bind (dk_map (dk_u2 (h 1 _ rfl) (h 2 _ rfl)))).trans rfl))
theorem dk_163 {code : ByteArray} {pc : Nat} (a b : UInt8) (h : DkAt code pc [163, a, b]) : decode code pc = .ok (.if_icmp .gt (Reader.signed 16 (a.toNat * 256 + b.toNat)), 3) := dk_of ((dk_bind (dk_u1 (h 0 _ rfl))).trans ((dk_bind (dk_map (dk_u2 (h 1 _ rfl) (h 2 _ rfl)))).trans rfl))
theorem dk_164 {code : ByteArray} {pc : Nat} (a b : UInt8) (h : DkAt code pc [164, a, b]) : decode code pc = .ok (.if_icmp .le (Reader.signed 16 (a.toNat * 256 + b.toNat)), 3) := dk_of ((dk_bind (dk_u1 (h 0 _ rfl))).trans ((dk_bind (dk_map (dk_u2 (h 1 _ rfl) (h 2 _ rfl)))).trans rfl))
theorem dk_165 {code : ByteArray} {pc : Nat} (a b : UInt8) (h : DkAt code pc [165, a, b]) : decode code pc = .ok (.if_acmp .eq (Reader.signed 16 (a.toNat * 256 + b.toNat)), 3) := dk_of ((dk_bind (dk_u1 (h 0 _ rfl))).trans ((dk_bind (dk_map (dk_u2 (h 1 _ rfl) (h 2 _ rfl)))).trans rfl))
theorem dk_167 {code : ByteArray} {pc : Nat} (a b : UInt8) (h : DkAt code pc [167, a, b]) : decode code pc = .ok (.goto (Reader.signed 16 (a.toNat * 256 + b.toNat)), 3) := dk_of ((dk_bind (dk_u1 (h 0 _ rfl))).trans ((dk_bind (dk_map (dk_u2 (h 1 _ rfl) (h 2 _ rfl)))).trans rfl))
theorem dk_172 {code : ByteArray} {pc : Nat} (h : DkAt code pc [172]) : decode code pc = .ok (.ireturn, 1) := dk_of ((dk_bind (dk_u1 (h 0 _ rfl))).trans rfl)
theorem dk_176 {code : ByteArray} {pc : Nat} (h : DkAt code pc [176]) : decode code pc = .ok (.areturn, 1) := dk_of ((dk_bind (dk_u1 (h 0 _ rfl))).trans rfl)
theorem dk_177 {code : ByteArray} {pc : Nat} (h : DkAt code pc [177]) : decode code pc = .ok (.return_, 1) := dk_of ((dk_bind (dk_u1 (h 0 _ rfl))).trans rfl)
theorem dk_178 {code : ByteArray} {pc : Nat} (a b : UInt8) (h : DkAt code pc [178, a, b]) : decode code pc = .ok (.getstatic (a.toNat * 256 + b.toNat), 3) := dk_of ((dk_bind (dk_u1 (h 0 _ rfl))).trans ((dk_bind (dk_u2 (h 1 _ rfl) (h 2 _ rfl))).trans rfl))
theorem dk_180 {code : ByteArray} {pc : Nat} (a b : UInt8) (h : DkAt code pc [180, a, b]) : decode code pc = .ok (.getfield (a.toNat * 256 + b.toNat), 3) := dk_of ((dk_bind (dk_u1 (h 0 _ rfl))).trans ((dk_bind (dk_u2 (h 1 _ rfl) (h 2 _ rfl))).trans rfl))
theorem dk_181 {code : ByteArray} {pc : Nat} (a b : UInt8) (h : DkAt code pc [181, a, b]) : decode code pc = .ok (.putfield (a.toNat * 256 + b.toNat), 3) := dk_of ((dk_bind (dk_u1 (h 0 _ rfl))).trans ((dk_bind (dk_u2 (h 1 _ rfl) (h 2 _ rfl))).trans rfl))
theorem dk_182 {code : ByteArray} {pc : Nat} (a b : UInt8) (h : DkAt code pc [182, a, b]) : decode code pc = .ok (.invokevirtual (a.toNat * 256 + b.toNat), 3) := dk_of ((dk_bind (dk_u1 (h 0 _ rfl))).trans ((dk_bind (dk_u2 (h 1 _ rfl) (h 2 _ rfl))).trans rfl))
theorem dk_183 {code : ByteArray} {pc : Nat} (a b : UInt8) (h : DkAt code pc [183, a, b]) : decode code pc = .ok (.invokespecial (a.toNat * 256 + b.toNat), 3) := dk_of ((dk_bind (dk_u1 (h 0 _ rfl))).trans ((dk_bind (dk_u2 (h 1 _ rfl) (h 2 _ rfl))).trans rfl))
theorem dk_184 {code : ByteArray} {pc : Nat} (a b : UInt8) (h : DkAt code pc [184, a, b]) : decode code pc = .ok (.invokestatic (a.toNat * 256 + b.toNat), 3) := dk_of ((dk_bind (dk_u1 (h 0 _ rfl))).trans ((dk_bind (dk_u2 (h 1 _ rfl) (h 2 _ rfl))).trans rfl))
theorem dk_187 {code : ByteArray} {pc : Nat} (a b : UInt8) (h : DkAt code pc [187, a, b]) : decode code pc = .ok (.new (a.toNat * 256 + b.toNat), 3) := dk_of ((dk_bind (dk_u1 (h 0 _ rfl))).trans ((dk_bind (dk_u2 (h 1 _ rfl) (h 2 _ rfl))).trans rfl))
theorem dk_188_10 {code : ByteArray} {pc : Nat} (h : DkAt code pc [188, 10]) : decode code pc = .ok (.newarray .int, 2) := dk_of ((dk_bind (dk_u1 (h 0 _ rfl))).trans ((dk_bind (dk_u1 (h 1 _ rfl))).trans rfl))
theorem dk_189 {code : ByteArray} {pc : Nat} (a b : UInt8) (h : DkAt code pc [189, a, b]) : decode code pc = .ok (.anewarray (a.toNat * 256 + b.toNat), 3) := dk_of ((dk_bind (dk_u1 (h 0 _ rfl))).trans ((dk_bind (dk_u2 (h 1 _ rfl) (h 2 _ rfl))).trans rfl))
theorem dk_190 {code : ByteArray} {pc : Nat} (h : DkAt code pc [190]) : decode code pc = .ok (.arraylength, 1) := dk_of ((dk_bind (dk_u1 (h 0 _ rfl))).trans rfl)
theorem dk_191 {code : ByteArray} {pc : Nat} (h : DkAt code pc [191]) : decode code pc = .ok (.athrow, 1) := dk_of ((dk_bind (dk_u1 (h 0 _ rfl))).trans rfl)
theorem dk_198 {code : ByteArray} {pc : Nat} (a b : UInt8) (h : DkAt code pc [198, a, b]) : decode code pc = .ok (.ifnull (Reader.signed 16 (a.toNat * 256 + b.toNat)), 3) := dk_of ((dk_bind (dk_u1 (h 0 _ rfl))).trans ((dk_bind (dk_map (dk_u2 (h 1 _ rfl) (h 2 _ rfl)))).trans rfl))

theorem q59 : (Jvm.Cond.arrayClass Jvm.ClassFile.FieldType.int) ∈ lw_all := lw_g (lw_at lw_m1 55 rfl) rfl
set_option maxRecDepth 100000
theorem q272 : (Jvm.Cond.arrayClass Jvm.ClassFile.FieldType.byte) ∈ lw_all := lw_g (lw_at lw_m2 28 rfl) rfl
theorem q297 : (Jvm.Cond.arrayOver (Jvm.ClassFile.FieldType.object "ModulusPoly")) ∈ lw_tbl := lw_at lw_m2 53 rfl

theorem q13 : (Jvm.Cond.initialized "java/lang/System") ∈ lw_all := lw_g (lw_at lw_m1 9 rfl) rfl
set_option maxRecDepth 100000
theorem q165 : (Jvm.Cond.static ({ cls := "java/lang/System", name := "arraycopy", desc := "(Ljava/lang/Object;ILjava/lang/Object;II)V" } : Jvm.MethodName)) ∈ lw_all := lw_g (lw_at lw_m1 161 rfl) rfl
theorem q166 : (Jvm.Cond.native ({ cls := "java/lang/System", name := "arraycopy", desc := "(Ljava/lang/Object;ILjava/lang/Object;II)V" } : Jvm.MethodName)) ∈ lw_all := lw_g (lw_at lw_m1 162 rfl) rfl

/-! PdfRepairLaw -/
set_option maxRecDepth 100000
def RX0 : String := "PdfRepairLaw"
abbrev cX0_cell : ByteArray := method_2_code
def yX0_cell : MethodName := ⟨RX0, "cell", "([II)I"⟩
def dkwX0_cell_0 : List UInt8 := [27, 42, 190, 162, 0, 9, 42, 27, 46, 167, 0, 4, 3, 172]
abbrev dktX0_cell_0 : List UInt8 := dkwX0_cell_0 ++ []
theorem dksX0_cell_0 : cX0_cell.data.toList.drop 0 = dktX0_cell_0 := by decide +kernel
theorem dX0_cell_0 : decode cX0_cell 0 = .ok (.iload_n 1, 1) := dk_27 (dk_at dksX0_cell_0 0 rfl rfl)
theorem dX0_cell_1 : decode cX0_cell 1 = .ok (.aload_n 0, 1) := dk_42 (dk_at dksX0_cell_0 1 rfl rfl)
theorem dX0_cell_2 : decode cX0_cell 2 = .ok (.arraylength, 1) := dk_190 (dk_at dksX0_cell_0 2 rfl rfl)
theorem dX0_cell_3 : decode cX0_cell 3 = .ok (.if_icmp .ge 9, 3) := dk_162 0 9 (dk_at dksX0_cell_0 3 rfl rfl)
theorem dX0_cell_6 : decode cX0_cell 6 = .ok (.aload_n 0, 1) := dk_42 (dk_at dksX0_cell_0 6 rfl rfl)
theorem dX0_cell_7 : decode cX0_cell 7 = .ok (.iload_n 1, 1) := dk_27 (dk_at dksX0_cell_0 7 rfl rfl)
theorem dX0_cell_8 : decode cX0_cell 8 = .ok (.iaload, 1) := dk_46 (dk_at dksX0_cell_0 8 rfl rfl)
theorem dX0_cell_9 : decode cX0_cell 9 = .ok (.goto 4, 3) := dk_167 0 4 (dk_at dksX0_cell_0 9 rfl rfl)
theorem dX0_cell_12 : decode cX0_cell 12 = .ok (.iconst 0, 1) := dk_3 (dk_at dksX0_cell_0 12 rfl rfl)
theorem dX0_cell_13 : decode cX0_cell 13 = .ok (.ireturn, 1) := dk_172 (dk_at dksX0_cell_0 13 rfl rfl)
theorem q4 : (Jvm.Cond.initialized "PdfRepairLaw") ∈ lw_all := lw_g (lw_at lw_m1 0 rfl) rfl
theorem q17 : (Jvm.Cond.classLink "PdfRepairLaw" (7 : Nat) "PdfRepair") ∈ lw_all := lw_g (lw_at lw_m1 13 rfl) rfl
theorem q19 : (Jvm.Cond.methodLink "PdfRepairLaw" (9 : Nat) ({ cls := "PdfRepair", name := "<init>", desc := "()V" } : Jvm.MethodName)) ∈ lw_all := lw_g (lw_at lw_m1 15 rfl) rfl
theorem q60 : (Jvm.Cond.methodLink "PdfRepairLaw" (20 : Nat) ({ cls := "PdfRepair", name := "put", desc := "(I)Z" } : Jvm.MethodName)) ∈ lw_all := lw_g (lw_at lw_m1 56 rfl) rfl
theorem q65 : (Jvm.Cond.methodLink "PdfRepairLaw" (16 : Nat) ({ cls := "PdfRepair", name := "clear", desc := "(I)V" } : Jvm.MethodName)) ∈ lw_all := lw_g (lw_at lw_m1 61 rfl) rfl
theorem q69 : (Jvm.Cond.methodLink "PdfRepairLaw" (28 : Nat) ({ cls := "PdfRepair", name := "size", desc := "()I" } : Jvm.MethodName)) ∈ lw_all := lw_g (lw_at lw_m1 65 rfl) rfl
theorem q73 : (Jvm.Cond.methodLink "PdfRepairLaw" (24 : Nat) ({ cls := "PdfRepair", name := "encode", desc := "()Z" } : Jvm.MethodName)) ∈ lw_all := lw_g (lw_at lw_m1 69 rfl) rfl
theorem q77 : (Jvm.Cond.methodLink "PdfRepairLaw" (36 : Nat) ({ cls := "PdfRepair", name := "harm", desc := "(II)Z" } : Jvm.MethodName)) ∈ lw_all := lw_g (lw_at lw_m1 73 rfl) rfl
theorem q81 : (Jvm.Cond.methodLink "PdfRepairLaw" (32 : Nat) ({ cls := "PdfRepair", name := "got", desc := "(I)I" } : Jvm.MethodName)) ∈ lw_all := lw_g (lw_at lw_m1 77 rfl) rfl
theorem q85 : (Jvm.Cond.methodLink "PdfRepairLaw" (40 : Nat) ({ cls := "PdfRepair", name := "repair", desc := "()I" } : Jvm.MethodName)) ∈ lw_all := lw_g (lw_at lw_m1 81 rfl) rfl
theorem q314 : (Jvm.Cond.methodLink "PdfRepairLaw" (10 : Nat) ({ cls := "PdfRepairLaw", name := "cell", desc := "([II)I" } : Jvm.MethodName)) ∈ lw_all := lw_g (lw_at lw_m2 70 rfl) rfl
theorem q315 : (Jvm.Cond.static ({ cls := "PdfRepairLaw", name := "cell", desc := "([II)I" } : Jvm.MethodName)) ∈ lw_all := lw_g (lw_at lw_m2 71 rfl) rfl
theorem q316 : (Jvm.Cond.code ({ cls := "PdfRepairLaw", name := "cell", desc := "([II)I" } : Jvm.MethodName) method_2_code (2 : Nat) (Option.some Jvm.ClassFile.FieldType.int)) ∈ lw_all := lw_g (lw_at lw_m2 72 rfl) rfl

/-! PdfRepair -/
set_option maxRecDepth 100000
def RX1 : String := "PdfRepair"
def TX1 : u_T := fun k => match k with
  | 0 => ("PdfRepair", "work", "LErrorCorrection;", true)
  | 1 => ("PdfRepair", "word", "[I", true)
  | 2 => ("PdfRepair", "sent", "[I", true)
  | 3 => ("PdfRepair", "got", "[I", true)
  | 4 => ("PdfRepair", "data", "I", false)
  | 5 => ("PdfRepair", "extra", "I", false)
  | _ => ("PdfRepair", "made", "Z", false)
def tyX1 : Nat → FieldType := fun k => match k with
  | 0 => .object "ErrorCorrection"
  | 1 => .array .int
  | 2 => .array .int
  | 3 => .array .int
  | 4 => .int
  | 5 => .int
  | _ => .boolean
abbrev wsX10 : List Cond := u_ws RX1 TX1 7
theorem nmX1 : ∀ a, a < 7 → ∀ b, b < 7 → a ≠ b → (TX1 a).2.1 ≠ (TX1 b).2.1 := by decide +kernel
theorem tyX1_ok : ∀ k, k < 7 → parseFieldDescriptor (TX1 k).2.2.1 = some (tyX1 k) := by decide +kernel
abbrev cX1_init : ByteArray := prog_6_method_1_code
def yX1_init : MethodName := ⟨RX1, "<init>", "()V"⟩
def dkwX1_init_1 : List UInt8 := [16, 64, 188, 10, 181, 0, 20, 42, 16, 64, 188, 10, 181, 0, 23, 42, 7, 181, 0, 26, 177]
abbrev dktX1_init_1 : List UInt8 := dkwX1_init_1 ++ []
def dkwX1_init_0 : List UInt8 := [42, 183, 0, 1, 42, 187, 0, 7, 89, 183, 0, 9, 181, 0, 10, 42, 16, 64, 188, 10, 181, 0, 16, 42]
abbrev dktX1_init_0 : List UInt8 := dkwX1_init_0 ++ dktX1_init_1
theorem dksX1_init_0 : cX1_init.data.toList.drop 0 = dktX1_init_0 := by decide +kernel
theorem dksX1_init_1 : cX1_init.data.toList.drop 24 = dktX1_init_1 := dk_seg dksX1_init_0 24 rfl rfl
theorem dX1_init_0 : decode cX1_init 0 = .ok (.aload_n 0, 1) := dk_42 (dk_at dksX1_init_0 0 rfl rfl)
theorem dX1_init_1 : decode cX1_init 1 = .ok (.invokespecial 1, 3) := dk_183 0 1 (dk_at dksX1_init_0 1 rfl rfl)
theorem dX1_init_4 : decode cX1_init 4 = .ok (.aload_n 0, 1) := dk_42 (dk_at dksX1_init_0 4 rfl rfl)
theorem dX1_init_5 : decode cX1_init 5 = .ok (.new 7, 3) := dk_187 0 7 (dk_at dksX1_init_0 5 rfl rfl)
theorem dX1_init_8 : decode cX1_init 8 = .ok (.dup, 1) := dk_89 (dk_at dksX1_init_0 8 rfl rfl)
theorem dX1_init_9 : decode cX1_init 9 = .ok (.invokespecial 9, 3) := dk_183 0 9 (dk_at dksX1_init_0 9 rfl rfl)
theorem dX1_init_12 : decode cX1_init 12 = .ok (.putfield 10, 3) := dk_181 0 10 (dk_at dksX1_init_0 12 rfl rfl)
theorem dX1_init_15 : decode cX1_init 15 = .ok (.aload_n 0, 1) := dk_42 (dk_at dksX1_init_0 15 rfl rfl)
theorem dX1_init_16 : decode cX1_init 16 = .ok (.bipush 64, 2) := dk_16 64 (dk_at dksX1_init_0 16 rfl rfl)
theorem dX1_init_18 : decode cX1_init 18 = .ok (.newarray .int, 2) := dk_188_10 (dk_at dksX1_init_0 18 rfl rfl)
theorem dX1_init_20 : decode cX1_init 20 = .ok (.putfield 16, 3) := dk_181 0 16 (dk_at dksX1_init_0 20 rfl rfl)
theorem dX1_init_23 : decode cX1_init 23 = .ok (.aload_n 0, 1) := dk_42 (dk_at dksX1_init_0 23 rfl rfl)
theorem dX1_init_24 : decode cX1_init 24 = .ok (.bipush 64, 2) := dk_16 64 (dk_at dksX1_init_1 0 rfl rfl)
theorem dX1_init_26 : decode cX1_init 26 = .ok (.newarray .int, 2) := dk_188_10 (dk_at dksX1_init_1 2 rfl rfl)
theorem dX1_init_28 : decode cX1_init 28 = .ok (.putfield 20, 3) := dk_181 0 20 (dk_at dksX1_init_1 4 rfl rfl)
theorem dX1_init_31 : decode cX1_init 31 = .ok (.aload_n 0, 1) := dk_42 (dk_at dksX1_init_1 7 rfl rfl)
theorem dX1_init_32 : decode cX1_init 32 = .ok (.bipush 64, 2) := dk_16 64 (dk_at dksX1_init_1 8 rfl rfl)
theorem dX1_init_34 : decode cX1_init 34 = .ok (.newarray .int, 2) := dk_188_10 (dk_at dksX1_init_1 10 rfl rfl)
theorem dX1_init_36 : decode cX1_init 36 = .ok (.putfield 23, 3) := dk_181 0 23 (dk_at dksX1_init_1 12 rfl rfl)
theorem dX1_init_39 : decode cX1_init 39 = .ok (.aload_n 0, 1) := dk_42 (dk_at dksX1_init_1 15 rfl rfl)
theorem dX1_init_40 : decode cX1_init 40 = .ok (.iconst 4, 1) := dk_7 (dk_at dksX1_init_1 16 rfl rfl)
theorem dX1_init_41 : decode cX1_init 41 = .ok (.putfield 26, 3) := dk_181 0 26 (dk_at dksX1_init_1 17 rfl rfl)
theorem dX1_init_44 : decode cX1_init 44 = .ok (.return_, 1) := dk_177 (dk_at dksX1_init_1 20 rfl rfl)
abbrev cX1_put : ByteArray := prog_6_method_2_code
def yX1_put : MethodName := ⟨RX1, "put", "(I)Z"⟩
def dkwX1_put_1 : List UInt8 := [17, 3, 161, 112, 79, 42, 89, 180, 0, 30, 4, 96, 181, 0, 30, 42, 3, 181, 0, 34, 4, 172]
abbrev dktX1_put_1 : List UInt8 := dkwX1_put_1 ++ []
def dkwX1_put_0 : List UInt8 := [42, 180, 0, 30, 16, 40, 160, 0, 5, 3, 172, 42, 180, 0, 16, 42, 180, 0, 30, 27, 18, 33, 126]
abbrev dktX1_put_0 : List UInt8 := dkwX1_put_0 ++ dktX1_put_1
theorem dksX1_put_0 : cX1_put.data.toList.drop 0 = dktX1_put_0 := by decide +kernel
theorem dksX1_put_1 : cX1_put.data.toList.drop 23 = dktX1_put_1 := dk_seg dksX1_put_0 23 rfl rfl
theorem dX1_put_0 : decode cX1_put 0 = .ok (.aload_n 0, 1) := dk_42 (dk_at dksX1_put_0 0 rfl rfl)
theorem dX1_put_1 : decode cX1_put 1 = .ok (.getfield 30, 3) := dk_180 0 30 (dk_at dksX1_put_0 1 rfl rfl)
theorem dX1_put_4 : decode cX1_put 4 = .ok (.bipush 40, 2) := dk_16 40 (dk_at dksX1_put_0 4 rfl rfl)
theorem dX1_put_6 : decode cX1_put 6 = .ok (.if_icmp .ne 5, 3) := dk_160 0 5 (dk_at dksX1_put_0 6 rfl rfl)
theorem dX1_put_9 : decode cX1_put 9 = .ok (.iconst 0, 1) := dk_3 (dk_at dksX1_put_0 9 rfl rfl)
theorem dX1_put_10 : decode cX1_put 10 = .ok (.ireturn, 1) := dk_172 (dk_at dksX1_put_0 10 rfl rfl)
theorem dX1_put_11 : decode cX1_put 11 = .ok (.aload_n 0, 1) := dk_42 (dk_at dksX1_put_0 11 rfl rfl)
theorem dX1_put_12 : decode cX1_put 12 = .ok (.getfield 16, 3) := dk_180 0 16 (dk_at dksX1_put_0 12 rfl rfl)
theorem dX1_put_15 : decode cX1_put 15 = .ok (.aload_n 0, 1) := dk_42 (dk_at dksX1_put_0 15 rfl rfl)
theorem dX1_put_16 : decode cX1_put 16 = .ok (.getfield 30, 3) := dk_180 0 30 (dk_at dksX1_put_0 16 rfl rfl)
theorem dX1_put_19 : decode cX1_put 19 = .ok (.iload_n 1, 1) := dk_27 (dk_at dksX1_put_0 19 rfl rfl)
theorem dX1_put_20 : decode cX1_put 20 = .ok (.ldc 33, 2) := dk_18 33 (dk_at dksX1_put_0 20 rfl rfl)
theorem dX1_put_22 : decode cX1_put 22 = .ok (.iand, 1) := dk_126 (dk_at dksX1_put_0 22 rfl rfl)
theorem dX1_put_23 : decode cX1_put 23 = .ok (.sipush 929, 3) := dk_17 3 161 (dk_at dksX1_put_1 0 rfl rfl)
theorem dX1_put_26 : decode cX1_put 26 = .ok (.irem, 1) := dk_112 (dk_at dksX1_put_1 3 rfl rfl)
theorem dX1_put_27 : decode cX1_put 27 = .ok (.iastore, 1) := dk_79 (dk_at dksX1_put_1 4 rfl rfl)
theorem dX1_put_28 : decode cX1_put 28 = .ok (.aload_n 0, 1) := dk_42 (dk_at dksX1_put_1 5 rfl rfl)
theorem dX1_put_29 : decode cX1_put 29 = .ok (.dup, 1) := dk_89 (dk_at dksX1_put_1 6 rfl rfl)
theorem dX1_put_30 : decode cX1_put 30 = .ok (.getfield 30, 3) := dk_180 0 30 (dk_at dksX1_put_1 7 rfl rfl)
theorem dX1_put_33 : decode cX1_put 33 = .ok (.iconst 1, 1) := dk_4 (dk_at dksX1_put_1 10 rfl rfl)
theorem dX1_put_34 : decode cX1_put 34 = .ok (.iadd, 1) := dk_96 (dk_at dksX1_put_1 11 rfl rfl)
theorem dX1_put_35 : decode cX1_put 35 = .ok (.putfield 30, 3) := dk_181 0 30 (dk_at dksX1_put_1 12 rfl rfl)
theorem dX1_put_38 : decode cX1_put 38 = .ok (.aload_n 0, 1) := dk_42 (dk_at dksX1_put_1 15 rfl rfl)
theorem dX1_put_39 : decode cX1_put 39 = .ok (.iconst 0, 1) := dk_3 (dk_at dksX1_put_1 16 rfl rfl)
theorem dX1_put_40 : decode cX1_put 40 = .ok (.putfield 34, 3) := dk_181 0 34 (dk_at dksX1_put_1 17 rfl rfl)
theorem dX1_put_43 : decode cX1_put 43 = .ok (.iconst 1, 1) := dk_4 (dk_at dksX1_put_1 20 rfl rfl)
theorem dX1_put_44 : decode cX1_put 44 = .ok (.ireturn, 1) := dk_172 (dk_at dksX1_put_1 21 rfl rfl)
abbrev cX1_clear : ByteArray := prog_6_method_3_code
def yX1_clear : MethodName := ⟨RX1, "clear", "(I)V"⟩
def dkwX1_clear_0 : List UInt8 := [42, 3, 181, 0, 30, 42, 5, 5, 27, 16, 7, 126, 104, 96, 181, 0, 26, 42, 3, 181, 0, 34, 177]
abbrev dktX1_clear_0 : List UInt8 := dkwX1_clear_0 ++ []
theorem dksX1_clear_0 : cX1_clear.data.toList.drop 0 = dktX1_clear_0 := by decide +kernel
theorem dX1_clear_0 : decode cX1_clear 0 = .ok (.aload_n 0, 1) := dk_42 (dk_at dksX1_clear_0 0 rfl rfl)
theorem dX1_clear_1 : decode cX1_clear 1 = .ok (.iconst 0, 1) := dk_3 (dk_at dksX1_clear_0 1 rfl rfl)
theorem dX1_clear_2 : decode cX1_clear 2 = .ok (.putfield 30, 3) := dk_181 0 30 (dk_at dksX1_clear_0 2 rfl rfl)
theorem dX1_clear_5 : decode cX1_clear 5 = .ok (.aload_n 0, 1) := dk_42 (dk_at dksX1_clear_0 5 rfl rfl)
theorem dX1_clear_6 : decode cX1_clear 6 = .ok (.iconst 2, 1) := dk_5 (dk_at dksX1_clear_0 6 rfl rfl)
theorem dX1_clear_7 : decode cX1_clear 7 = .ok (.iconst 2, 1) := dk_5 (dk_at dksX1_clear_0 7 rfl rfl)
theorem dX1_clear_8 : decode cX1_clear 8 = .ok (.iload_n 1, 1) := dk_27 (dk_at dksX1_clear_0 8 rfl rfl)
theorem dX1_clear_9 : decode cX1_clear 9 = .ok (.bipush 7, 2) := dk_16 7 (dk_at dksX1_clear_0 9 rfl rfl)
theorem dX1_clear_11 : decode cX1_clear 11 = .ok (.iand, 1) := dk_126 (dk_at dksX1_clear_0 11 rfl rfl)
theorem dX1_clear_12 : decode cX1_clear 12 = .ok (.imul, 1) := dk_104 (dk_at dksX1_clear_0 12 rfl rfl)
theorem dX1_clear_13 : decode cX1_clear 13 = .ok (.iadd, 1) := dk_96 (dk_at dksX1_clear_0 13 rfl rfl)
theorem dX1_clear_14 : decode cX1_clear 14 = .ok (.putfield 26, 3) := dk_181 0 26 (dk_at dksX1_clear_0 14 rfl rfl)
theorem dX1_clear_17 : decode cX1_clear 17 = .ok (.aload_n 0, 1) := dk_42 (dk_at dksX1_clear_0 17 rfl rfl)
theorem dX1_clear_18 : decode cX1_clear 18 = .ok (.iconst 0, 1) := dk_3 (dk_at dksX1_clear_0 18 rfl rfl)
theorem dX1_clear_19 : decode cX1_clear 19 = .ok (.putfield 34, 3) := dk_181 0 34 (dk_at dksX1_clear_0 19 rfl rfl)
theorem dX1_clear_22 : decode cX1_clear 22 = .ok (.return_, 1) := dk_177 (dk_at dksX1_clear_0 22 rfl rfl)
abbrev cX1_size : ByteArray := prog_6_method_4_code
def yX1_size : MethodName := ⟨RX1, "size", "()I"⟩
def dkwX1_size_0 : List UInt8 := [42, 180, 0, 34, 153, 0, 15, 42, 180, 0, 30, 42, 180, 0, 26, 96, 167, 0, 7, 42, 180, 0, 30, 172]
abbrev dktX1_size_0 : List UInt8 := dkwX1_size_0 ++ []
theorem dksX1_size_0 : cX1_size.data.toList.drop 0 = dktX1_size_0 := by decide +kernel
theorem dX1_size_0 : decode cX1_size 0 = .ok (.aload_n 0, 1) := dk_42 (dk_at dksX1_size_0 0 rfl rfl)
theorem dX1_size_1 : decode cX1_size 1 = .ok (.getfield 34, 3) := dk_180 0 34 (dk_at dksX1_size_0 1 rfl rfl)
theorem dX1_size_4 : decode cX1_size 4 = .ok (.ifCond .eq 15, 3) := dk_153 0 15 (dk_at dksX1_size_0 4 rfl rfl)
theorem dX1_size_7 : decode cX1_size 7 = .ok (.aload_n 0, 1) := dk_42 (dk_at dksX1_size_0 7 rfl rfl)
theorem dX1_size_8 : decode cX1_size 8 = .ok (.getfield 30, 3) := dk_180 0 30 (dk_at dksX1_size_0 8 rfl rfl)
theorem dX1_size_11 : decode cX1_size 11 = .ok (.aload_n 0, 1) := dk_42 (dk_at dksX1_size_0 11 rfl rfl)
theorem dX1_size_12 : decode cX1_size 12 = .ok (.getfield 26, 3) := dk_180 0 26 (dk_at dksX1_size_0 12 rfl rfl)
theorem dX1_size_15 : decode cX1_size 15 = .ok (.iadd, 1) := dk_96 (dk_at dksX1_size_0 15 rfl rfl)
theorem dX1_size_16 : decode cX1_size 16 = .ok (.goto 7, 3) := dk_167 0 7 (dk_at dksX1_size_0 16 rfl rfl)
theorem dX1_size_19 : decode cX1_size 19 = .ok (.aload_n 0, 1) := dk_42 (dk_at dksX1_size_0 19 rfl rfl)
theorem dX1_size_20 : decode cX1_size 20 = .ok (.getfield 30, 3) := dk_180 0 30 (dk_at dksX1_size_0 20 rfl rfl)
theorem dX1_size_23 : decode cX1_size 23 = .ok (.ireturn, 1) := dk_172 (dk_at dksX1_size_0 23 rfl rfl)
abbrev cX1_encode : ByteArray := prog_6_method_5_code
def yX1_encode : MethodName := ⟨RX1, "encode", "()Z"⟩
def dkwX1_encode_12 : List UInt8 := [46, 79, 132, 4, 1, 167, 255, 225, 42, 4, 181, 0, 34, 4, 172]
abbrev dktX1_encode_12 : List UInt8 := dkwX1_encode_12 ++ []
def dkwX1_encode_11 : List UInt8 := [42, 180, 0, 30, 42, 180, 0, 26, 96, 162, 0, 23, 42, 180, 0, 23, 21, 4, 42, 180, 0, 20, 21, 4]
abbrev dktX1_encode_11 : List UInt8 := dkwX1_encode_11 ++ dktX1_encode_12
def dkwX1_encode_10 : List UInt8 := [17, 3, 161, 45, 21, 4, 46, 100, 17, 3, 161, 112, 79, 132, 4, 1, 167, 255, 220, 3, 54, 4, 21, 4]
abbrev dktX1_encode_10 : List UInt8 := dkwX1_encode_10 ++ dktX1_encode_11
def dkwX1_encode_9 : List UInt8 := [54, 4, 21, 4, 42, 180, 0, 26, 162, 0, 33, 42, 180, 0, 20, 42, 180, 0, 30, 21, 4, 96]
abbrev dktX1_encode_9 : List UInt8 := dkwX1_encode_9 ++ dktX1_encode_10
def dkwX1_encode_8 : List UInt8 := [167, 255, 197, 42, 180, 0, 20, 21, 4, 42, 180, 0, 16, 21, 4, 46, 79, 132, 4, 1, 167, 255, 148, 3]
abbrev dktX1_encode_8 : List UInt8 := dkwX1_encode_8 ++ dktX1_encode_9
def dkwX1_encode_7 : List UInt8 := [17, 3, 161, 21, 5, 100, 43, 21, 6, 4, 96, 46, 104, 96, 17, 3, 161, 112, 79, 132, 6, 1]
abbrev dktX1_encode_7 : List UInt8 := dkwX1_encode_7 ++ dktX1_encode_8
def dkwX1_encode_6 : List UInt8 := [180, 0, 26, 162, 0, 12, 45, 21, 6, 4, 96, 46, 167, 0, 4, 3, 54, 7, 45, 21, 6, 21, 7]
abbrev dktX1_encode_6 : List UInt8 := dkwX1_encode_6 ++ dktX1_encode_7
def dkwX1_encode_5 : List UInt8 := [17, 3, 161, 112, 54, 5, 3, 54, 6, 21, 6, 42, 180, 0, 26, 162, 0, 56, 21, 6, 4, 96, 42]
abbrev dktX1_encode_5 : List UInt8 := dkwX1_encode_5 ++ dktX1_encode_6
def dkwX1_encode_4 : List UInt8 := [3, 54, 4, 21, 4, 42, 180, 0, 30, 162, 0, 105, 42, 180, 0, 16, 21, 4, 46, 45, 3, 46, 96]
abbrev dktX1_encode_4 : List UInt8 := dkwX1_encode_4 ++ dktX1_encode_5
def dkwX1_encode_3 : List UInt8 := [17, 3, 161, 112, 79, 132, 4, 255, 167, 255, 223, 132, 3, 1, 167, 255, 198, 42, 180, 0, 26, 188, 10, 78]
abbrev dktX1_encode_3 : List UInt8 := dkwX1_encode_3 ++ dktX1_encode_4
def dkwX1_encode_2 : List UInt8 := [158, 0, 34, 43, 21, 4, 43, 21, 4, 46, 17, 3, 161, 28, 100, 43, 21, 4, 4, 100, 46, 104, 96]
abbrev dktX1_encode_2 : List UInt8 := dkwX1_encode_2 ++ dktX1_encode_3
def dkwX1_encode_1 : List UInt8 := [4, 62, 29, 42, 180, 0, 26, 163, 0, 56, 28, 6, 104, 17, 3, 161, 112, 61, 29, 54, 4, 21, 4]
abbrev dktX1_encode_1 : List UInt8 := dkwX1_encode_1 ++ dktX1_encode_2
def dkwX1_encode_0 : List UInt8 := [42, 180, 0, 30, 154, 0, 5, 3, 172, 42, 180, 0, 26, 4, 96, 188, 10, 76, 43, 3, 4, 79, 4, 61]
abbrev dktX1_encode_0 : List UInt8 := dkwX1_encode_0 ++ dktX1_encode_1
theorem dksX1_encode_0 : cX1_encode.data.toList.drop 0 = dktX1_encode_0 := by decide +kernel
theorem dksX1_encode_1 : cX1_encode.data.toList.drop 24 = dktX1_encode_1 := dk_seg dksX1_encode_0 24 rfl rfl
theorem dksX1_encode_2 : cX1_encode.data.toList.drop 47 = dktX1_encode_2 := dk_seg dksX1_encode_1 23 rfl rfl
theorem dksX1_encode_3 : cX1_encode.data.toList.drop 70 = dktX1_encode_3 := dk_seg dksX1_encode_2 23 rfl rfl
theorem dksX1_encode_4 : cX1_encode.data.toList.drop 94 = dktX1_encode_4 := dk_seg dksX1_encode_3 24 rfl rfl
theorem dksX1_encode_5 : cX1_encode.data.toList.drop 117 = dktX1_encode_5 := dk_seg dksX1_encode_4 23 rfl rfl
theorem dksX1_encode_6 : cX1_encode.data.toList.drop 140 = dktX1_encode_6 := dk_seg dksX1_encode_5 23 rfl rfl
theorem dksX1_encode_7 : cX1_encode.data.toList.drop 163 = dktX1_encode_7 := dk_seg dksX1_encode_6 23 rfl rfl
theorem dksX1_encode_8 : cX1_encode.data.toList.drop 185 = dktX1_encode_8 := dk_seg dksX1_encode_7 22 rfl rfl
theorem dksX1_encode_9 : cX1_encode.data.toList.drop 209 = dktX1_encode_9 := dk_seg dksX1_encode_8 24 rfl rfl
theorem dksX1_encode_10 : cX1_encode.data.toList.drop 231 = dktX1_encode_10 := dk_seg dksX1_encode_9 22 rfl rfl
theorem dksX1_encode_11 : cX1_encode.data.toList.drop 255 = dktX1_encode_11 := dk_seg dksX1_encode_10 24 rfl rfl
theorem dksX1_encode_12 : cX1_encode.data.toList.drop 279 = dktX1_encode_12 := dk_seg dksX1_encode_11 24 rfl rfl
theorem dX1_encode_0 : decode cX1_encode 0 = .ok (.aload_n 0, 1) := dk_42 (dk_at dksX1_encode_0 0 rfl rfl)
theorem dX1_encode_1 : decode cX1_encode 1 = .ok (.getfield 30, 3) := dk_180 0 30 (dk_at dksX1_encode_0 1 rfl rfl)
theorem dX1_encode_4 : decode cX1_encode 4 = .ok (.ifCond .ne 5, 3) := dk_154 0 5 (dk_at dksX1_encode_0 4 rfl rfl)
theorem dX1_encode_7 : decode cX1_encode 7 = .ok (.iconst 0, 1) := dk_3 (dk_at dksX1_encode_0 7 rfl rfl)
theorem dX1_encode_8 : decode cX1_encode 8 = .ok (.ireturn, 1) := dk_172 (dk_at dksX1_encode_0 8 rfl rfl)
theorem dX1_encode_9 : decode cX1_encode 9 = .ok (.aload_n 0, 1) := dk_42 (dk_at dksX1_encode_0 9 rfl rfl)
theorem dX1_encode_10 : decode cX1_encode 10 = .ok (.getfield 26, 3) := dk_180 0 26 (dk_at dksX1_encode_0 10 rfl rfl)
theorem dX1_encode_13 : decode cX1_encode 13 = .ok (.iconst 1, 1) := dk_4 (dk_at dksX1_encode_0 13 rfl rfl)
theorem dX1_encode_14 : decode cX1_encode 14 = .ok (.iadd, 1) := dk_96 (dk_at dksX1_encode_0 14 rfl rfl)
theorem dX1_encode_15 : decode cX1_encode 15 = .ok (.newarray .int, 2) := dk_188_10 (dk_at dksX1_encode_0 15 rfl rfl)
theorem dX1_encode_17 : decode cX1_encode 17 = .ok (.astore_n 1, 1) := dk_76 (dk_at dksX1_encode_0 17 rfl rfl)
theorem dX1_encode_18 : decode cX1_encode 18 = .ok (.aload_n 1, 1) := dk_43 (dk_at dksX1_encode_0 18 rfl rfl)
theorem dX1_encode_19 : decode cX1_encode 19 = .ok (.iconst 0, 1) := dk_3 (dk_at dksX1_encode_0 19 rfl rfl)
theorem dX1_encode_20 : decode cX1_encode 20 = .ok (.iconst 1, 1) := dk_4 (dk_at dksX1_encode_0 20 rfl rfl)
theorem dX1_encode_21 : decode cX1_encode 21 = .ok (.iastore, 1) := dk_79 (dk_at dksX1_encode_0 21 rfl rfl)
theorem dX1_encode_22 : decode cX1_encode 22 = .ok (.iconst 1, 1) := dk_4 (dk_at dksX1_encode_0 22 rfl rfl)
theorem dX1_encode_23 : decode cX1_encode 23 = .ok (.istore_n 2, 1) := dk_61 (dk_at dksX1_encode_0 23 rfl rfl)
theorem dX1_encode_24 : decode cX1_encode 24 = .ok (.iconst 1, 1) := dk_4 (dk_at dksX1_encode_1 0 rfl rfl)
theorem dX1_encode_25 : decode cX1_encode 25 = .ok (.istore_n 3, 1) := dk_62 (dk_at dksX1_encode_1 1 rfl rfl)
theorem dX1_encode_26 : decode cX1_encode 26 = .ok (.iload_n 3, 1) := dk_29 (dk_at dksX1_encode_1 2 rfl rfl)
theorem dX1_encode_27 : decode cX1_encode 27 = .ok (.aload_n 0, 1) := dk_42 (dk_at dksX1_encode_1 3 rfl rfl)
theorem dX1_encode_28 : decode cX1_encode 28 = .ok (.getfield 26, 3) := dk_180 0 26 (dk_at dksX1_encode_1 4 rfl rfl)
theorem dX1_encode_31 : decode cX1_encode 31 = .ok (.if_icmp .gt 56, 3) := dk_163 0 56 (dk_at dksX1_encode_1 7 rfl rfl)
theorem dX1_encode_34 : decode cX1_encode 34 = .ok (.iload_n 2, 1) := dk_28 (dk_at dksX1_encode_1 10 rfl rfl)
theorem dX1_encode_35 : decode cX1_encode 35 = .ok (.iconst 3, 1) := dk_6 (dk_at dksX1_encode_1 11 rfl rfl)
theorem dX1_encode_36 : decode cX1_encode 36 = .ok (.imul, 1) := dk_104 (dk_at dksX1_encode_1 12 rfl rfl)
theorem dX1_encode_37 : decode cX1_encode 37 = .ok (.sipush 929, 3) := dk_17 3 161 (dk_at dksX1_encode_1 13 rfl rfl)
theorem dX1_encode_40 : decode cX1_encode 40 = .ok (.irem, 1) := dk_112 (dk_at dksX1_encode_1 16 rfl rfl)
theorem dX1_encode_41 : decode cX1_encode 41 = .ok (.istore_n 2, 1) := dk_61 (dk_at dksX1_encode_1 17 rfl rfl)
theorem dX1_encode_42 : decode cX1_encode 42 = .ok (.iload_n 3, 1) := dk_29 (dk_at dksX1_encode_1 18 rfl rfl)
theorem dX1_encode_43 : decode cX1_encode 43 = .ok (.istore 4, 2) := dk_54 4 (dk_at dksX1_encode_1 19 rfl rfl)
theorem dX1_encode_45 : decode cX1_encode 45 = .ok (.iload 4, 2) := dk_21 4 (dk_at dksX1_encode_1 21 rfl rfl)
theorem dX1_encode_47 : decode cX1_encode 47 = .ok (.ifCond .le 34, 3) := dk_158 0 34 (dk_at dksX1_encode_2 0 rfl rfl)
theorem dX1_encode_50 : decode cX1_encode 50 = .ok (.aload_n 1, 1) := dk_43 (dk_at dksX1_encode_2 3 rfl rfl)
theorem dX1_encode_51 : decode cX1_encode 51 = .ok (.iload 4, 2) := dk_21 4 (dk_at dksX1_encode_2 4 rfl rfl)
theorem dX1_encode_53 : decode cX1_encode 53 = .ok (.aload_n 1, 1) := dk_43 (dk_at dksX1_encode_2 6 rfl rfl)
theorem dX1_encode_54 : decode cX1_encode 54 = .ok (.iload 4, 2) := dk_21 4 (dk_at dksX1_encode_2 7 rfl rfl)
theorem dX1_encode_56 : decode cX1_encode 56 = .ok (.iaload, 1) := dk_46 (dk_at dksX1_encode_2 9 rfl rfl)
theorem dX1_encode_57 : decode cX1_encode 57 = .ok (.sipush 929, 3) := dk_17 3 161 (dk_at dksX1_encode_2 10 rfl rfl)
theorem dX1_encode_60 : decode cX1_encode 60 = .ok (.iload_n 2, 1) := dk_28 (dk_at dksX1_encode_2 13 rfl rfl)
theorem dX1_encode_61 : decode cX1_encode 61 = .ok (.isub, 1) := dk_100 (dk_at dksX1_encode_2 14 rfl rfl)
theorem dX1_encode_62 : decode cX1_encode 62 = .ok (.aload_n 1, 1) := dk_43 (dk_at dksX1_encode_2 15 rfl rfl)
theorem dX1_encode_63 : decode cX1_encode 63 = .ok (.iload 4, 2) := dk_21 4 (dk_at dksX1_encode_2 16 rfl rfl)
theorem dX1_encode_65 : decode cX1_encode 65 = .ok (.iconst 1, 1) := dk_4 (dk_at dksX1_encode_2 18 rfl rfl)
theorem dX1_encode_66 : decode cX1_encode 66 = .ok (.isub, 1) := dk_100 (dk_at dksX1_encode_2 19 rfl rfl)
theorem dX1_encode_67 : decode cX1_encode 67 = .ok (.iaload, 1) := dk_46 (dk_at dksX1_encode_2 20 rfl rfl)
theorem dX1_encode_68 : decode cX1_encode 68 = .ok (.imul, 1) := dk_104 (dk_at dksX1_encode_2 21 rfl rfl)
theorem dX1_encode_69 : decode cX1_encode 69 = .ok (.iadd, 1) := dk_96 (dk_at dksX1_encode_2 22 rfl rfl)
theorem dX1_encode_70 : decode cX1_encode 70 = .ok (.sipush 929, 3) := dk_17 3 161 (dk_at dksX1_encode_3 0 rfl rfl)
theorem dX1_encode_73 : decode cX1_encode 73 = .ok (.irem, 1) := dk_112 (dk_at dksX1_encode_3 3 rfl rfl)
theorem dX1_encode_74 : decode cX1_encode 74 = .ok (.iastore, 1) := dk_79 (dk_at dksX1_encode_3 4 rfl rfl)
theorem dX1_encode_75 : decode cX1_encode 75 = .ok (.iinc 4 (-1), 3) := dk_132 4 255 (dk_at dksX1_encode_3 5 rfl rfl)
theorem dX1_encode_78 : decode cX1_encode 78 = .ok (.goto (-33), 3) := dk_167 255 223 (dk_at dksX1_encode_3 8 rfl rfl)
theorem dX1_encode_81 : decode cX1_encode 81 = .ok (.iinc 3 1, 3) := dk_132 3 1 (dk_at dksX1_encode_3 11 rfl rfl)
theorem dX1_encode_84 : decode cX1_encode 84 = .ok (.goto (-58), 3) := dk_167 255 198 (dk_at dksX1_encode_3 14 rfl rfl)
theorem dX1_encode_87 : decode cX1_encode 87 = .ok (.aload_n 0, 1) := dk_42 (dk_at dksX1_encode_3 17 rfl rfl)
theorem dX1_encode_88 : decode cX1_encode 88 = .ok (.getfield 26, 3) := dk_180 0 26 (dk_at dksX1_encode_3 18 rfl rfl)
theorem dX1_encode_91 : decode cX1_encode 91 = .ok (.newarray .int, 2) := dk_188_10 (dk_at dksX1_encode_3 21 rfl rfl)
theorem dX1_encode_93 : decode cX1_encode 93 = .ok (.astore_n 3, 1) := dk_78 (dk_at dksX1_encode_3 23 rfl rfl)
theorem dX1_encode_94 : decode cX1_encode 94 = .ok (.iconst 0, 1) := dk_3 (dk_at dksX1_encode_4 0 rfl rfl)
theorem dX1_encode_95 : decode cX1_encode 95 = .ok (.istore 4, 2) := dk_54 4 (dk_at dksX1_encode_4 1 rfl rfl)
theorem dX1_encode_97 : decode cX1_encode 97 = .ok (.iload 4, 2) := dk_21 4 (dk_at dksX1_encode_4 3 rfl rfl)
theorem dX1_encode_99 : decode cX1_encode 99 = .ok (.aload_n 0, 1) := dk_42 (dk_at dksX1_encode_4 5 rfl rfl)
theorem dX1_encode_100 : decode cX1_encode 100 = .ok (.getfield 30, 3) := dk_180 0 30 (dk_at dksX1_encode_4 6 rfl rfl)
theorem dX1_encode_103 : decode cX1_encode 103 = .ok (.if_icmp .ge 105, 3) := dk_162 0 105 (dk_at dksX1_encode_4 9 rfl rfl)
theorem dX1_encode_106 : decode cX1_encode 106 = .ok (.aload_n 0, 1) := dk_42 (dk_at dksX1_encode_4 12 rfl rfl)
theorem dX1_encode_107 : decode cX1_encode 107 = .ok (.getfield 16, 3) := dk_180 0 16 (dk_at dksX1_encode_4 13 rfl rfl)
theorem dX1_encode_110 : decode cX1_encode 110 = .ok (.iload 4, 2) := dk_21 4 (dk_at dksX1_encode_4 16 rfl rfl)
theorem dX1_encode_112 : decode cX1_encode 112 = .ok (.iaload, 1) := dk_46 (dk_at dksX1_encode_4 18 rfl rfl)
theorem dX1_encode_113 : decode cX1_encode 113 = .ok (.aload_n 3, 1) := dk_45 (dk_at dksX1_encode_4 19 rfl rfl)
theorem dX1_encode_114 : decode cX1_encode 114 = .ok (.iconst 0, 1) := dk_3 (dk_at dksX1_encode_4 20 rfl rfl)
theorem dX1_encode_115 : decode cX1_encode 115 = .ok (.iaload, 1) := dk_46 (dk_at dksX1_encode_4 21 rfl rfl)
theorem dX1_encode_116 : decode cX1_encode 116 = .ok (.iadd, 1) := dk_96 (dk_at dksX1_encode_4 22 rfl rfl)
theorem dX1_encode_117 : decode cX1_encode 117 = .ok (.sipush 929, 3) := dk_17 3 161 (dk_at dksX1_encode_5 0 rfl rfl)
theorem dX1_encode_120 : decode cX1_encode 120 = .ok (.irem, 1) := dk_112 (dk_at dksX1_encode_5 3 rfl rfl)
theorem dX1_encode_121 : decode cX1_encode 121 = .ok (.istore 5, 2) := dk_54 5 (dk_at dksX1_encode_5 4 rfl rfl)
theorem dX1_encode_123 : decode cX1_encode 123 = .ok (.iconst 0, 1) := dk_3 (dk_at dksX1_encode_5 6 rfl rfl)
theorem dX1_encode_124 : decode cX1_encode 124 = .ok (.istore 6, 2) := dk_54 6 (dk_at dksX1_encode_5 7 rfl rfl)
theorem dX1_encode_126 : decode cX1_encode 126 = .ok (.iload 6, 2) := dk_21 6 (dk_at dksX1_encode_5 9 rfl rfl)
theorem dX1_encode_128 : decode cX1_encode 128 = .ok (.aload_n 0, 1) := dk_42 (dk_at dksX1_encode_5 11 rfl rfl)
theorem dX1_encode_129 : decode cX1_encode 129 = .ok (.getfield 26, 3) := dk_180 0 26 (dk_at dksX1_encode_5 12 rfl rfl)
theorem dX1_encode_132 : decode cX1_encode 132 = .ok (.if_icmp .ge 56, 3) := dk_162 0 56 (dk_at dksX1_encode_5 15 rfl rfl)
theorem dX1_encode_135 : decode cX1_encode 135 = .ok (.iload 6, 2) := dk_21 6 (dk_at dksX1_encode_5 18 rfl rfl)
theorem dX1_encode_137 : decode cX1_encode 137 = .ok (.iconst 1, 1) := dk_4 (dk_at dksX1_encode_5 20 rfl rfl)
theorem dX1_encode_138 : decode cX1_encode 138 = .ok (.iadd, 1) := dk_96 (dk_at dksX1_encode_5 21 rfl rfl)
theorem dX1_encode_139 : decode cX1_encode 139 = .ok (.aload_n 0, 1) := dk_42 (dk_at dksX1_encode_5 22 rfl rfl)
theorem dX1_encode_140 : decode cX1_encode 140 = .ok (.getfield 26, 3) := dk_180 0 26 (dk_at dksX1_encode_6 0 rfl rfl)
theorem dX1_encode_143 : decode cX1_encode 143 = .ok (.if_icmp .ge 12, 3) := dk_162 0 12 (dk_at dksX1_encode_6 3 rfl rfl)
theorem dX1_encode_146 : decode cX1_encode 146 = .ok (.aload_n 3, 1) := dk_45 (dk_at dksX1_encode_6 6 rfl rfl)
theorem dX1_encode_147 : decode cX1_encode 147 = .ok (.iload 6, 2) := dk_21 6 (dk_at dksX1_encode_6 7 rfl rfl)
theorem dX1_encode_149 : decode cX1_encode 149 = .ok (.iconst 1, 1) := dk_4 (dk_at dksX1_encode_6 9 rfl rfl)
theorem dX1_encode_150 : decode cX1_encode 150 = .ok (.iadd, 1) := dk_96 (dk_at dksX1_encode_6 10 rfl rfl)
theorem dX1_encode_151 : decode cX1_encode 151 = .ok (.iaload, 1) := dk_46 (dk_at dksX1_encode_6 11 rfl rfl)
theorem dX1_encode_152 : decode cX1_encode 152 = .ok (.goto 4, 3) := dk_167 0 4 (dk_at dksX1_encode_6 12 rfl rfl)
theorem dX1_encode_155 : decode cX1_encode 155 = .ok (.iconst 0, 1) := dk_3 (dk_at dksX1_encode_6 15 rfl rfl)
theorem dX1_encode_156 : decode cX1_encode 156 = .ok (.istore 7, 2) := dk_54 7 (dk_at dksX1_encode_6 16 rfl rfl)
theorem dX1_encode_158 : decode cX1_encode 158 = .ok (.aload_n 3, 1) := dk_45 (dk_at dksX1_encode_6 18 rfl rfl)
theorem dX1_encode_159 : decode cX1_encode 159 = .ok (.iload 6, 2) := dk_21 6 (dk_at dksX1_encode_6 19 rfl rfl)
theorem dX1_encode_161 : decode cX1_encode 161 = .ok (.iload 7, 2) := dk_21 7 (dk_at dksX1_encode_6 21 rfl rfl)
theorem dX1_encode_163 : decode cX1_encode 163 = .ok (.sipush 929, 3) := dk_17 3 161 (dk_at dksX1_encode_7 0 rfl rfl)
theorem dX1_encode_166 : decode cX1_encode 166 = .ok (.iload 5, 2) := dk_21 5 (dk_at dksX1_encode_7 3 rfl rfl)
theorem dX1_encode_168 : decode cX1_encode 168 = .ok (.isub, 1) := dk_100 (dk_at dksX1_encode_7 5 rfl rfl)
theorem dX1_encode_169 : decode cX1_encode 169 = .ok (.aload_n 1, 1) := dk_43 (dk_at dksX1_encode_7 6 rfl rfl)
theorem dX1_encode_170 : decode cX1_encode 170 = .ok (.iload 6, 2) := dk_21 6 (dk_at dksX1_encode_7 7 rfl rfl)
theorem dX1_encode_172 : decode cX1_encode 172 = .ok (.iconst 1, 1) := dk_4 (dk_at dksX1_encode_7 9 rfl rfl)
theorem dX1_encode_173 : decode cX1_encode 173 = .ok (.iadd, 1) := dk_96 (dk_at dksX1_encode_7 10 rfl rfl)
theorem dX1_encode_174 : decode cX1_encode 174 = .ok (.iaload, 1) := dk_46 (dk_at dksX1_encode_7 11 rfl rfl)
theorem dX1_encode_175 : decode cX1_encode 175 = .ok (.imul, 1) := dk_104 (dk_at dksX1_encode_7 12 rfl rfl)
theorem dX1_encode_176 : decode cX1_encode 176 = .ok (.iadd, 1) := dk_96 (dk_at dksX1_encode_7 13 rfl rfl)
theorem dX1_encode_177 : decode cX1_encode 177 = .ok (.sipush 929, 3) := dk_17 3 161 (dk_at dksX1_encode_7 14 rfl rfl)
theorem dX1_encode_180 : decode cX1_encode 180 = .ok (.irem, 1) := dk_112 (dk_at dksX1_encode_7 17 rfl rfl)
theorem dX1_encode_181 : decode cX1_encode 181 = .ok (.iastore, 1) := dk_79 (dk_at dksX1_encode_7 18 rfl rfl)
theorem dX1_encode_182 : decode cX1_encode 182 = .ok (.iinc 6 1, 3) := dk_132 6 1 (dk_at dksX1_encode_7 19 rfl rfl)
theorem dX1_encode_185 : decode cX1_encode 185 = .ok (.goto (-59), 3) := dk_167 255 197 (dk_at dksX1_encode_8 0 rfl rfl)
theorem dX1_encode_188 : decode cX1_encode 188 = .ok (.aload_n 0, 1) := dk_42 (dk_at dksX1_encode_8 3 rfl rfl)
theorem dX1_encode_189 : decode cX1_encode 189 = .ok (.getfield 20, 3) := dk_180 0 20 (dk_at dksX1_encode_8 4 rfl rfl)
theorem dX1_encode_192 : decode cX1_encode 192 = .ok (.iload 4, 2) := dk_21 4 (dk_at dksX1_encode_8 7 rfl rfl)
theorem dX1_encode_194 : decode cX1_encode 194 = .ok (.aload_n 0, 1) := dk_42 (dk_at dksX1_encode_8 9 rfl rfl)
theorem dX1_encode_195 : decode cX1_encode 195 = .ok (.getfield 16, 3) := dk_180 0 16 (dk_at dksX1_encode_8 10 rfl rfl)
theorem dX1_encode_198 : decode cX1_encode 198 = .ok (.iload 4, 2) := dk_21 4 (dk_at dksX1_encode_8 13 rfl rfl)
theorem dX1_encode_200 : decode cX1_encode 200 = .ok (.iaload, 1) := dk_46 (dk_at dksX1_encode_8 15 rfl rfl)
theorem dX1_encode_201 : decode cX1_encode 201 = .ok (.iastore, 1) := dk_79 (dk_at dksX1_encode_8 16 rfl rfl)
theorem dX1_encode_202 : decode cX1_encode 202 = .ok (.iinc 4 1, 3) := dk_132 4 1 (dk_at dksX1_encode_8 17 rfl rfl)
theorem dX1_encode_205 : decode cX1_encode 205 = .ok (.goto (-108), 3) := dk_167 255 148 (dk_at dksX1_encode_8 20 rfl rfl)
theorem dX1_encode_208 : decode cX1_encode 208 = .ok (.iconst 0, 1) := dk_3 (dk_at dksX1_encode_8 23 rfl rfl)
theorem dX1_encode_209 : decode cX1_encode 209 = .ok (.istore 4, 2) := dk_54 4 (dk_at dksX1_encode_9 0 rfl rfl)
theorem dX1_encode_211 : decode cX1_encode 211 = .ok (.iload 4, 2) := dk_21 4 (dk_at dksX1_encode_9 2 rfl rfl)
theorem dX1_encode_213 : decode cX1_encode 213 = .ok (.aload_n 0, 1) := dk_42 (dk_at dksX1_encode_9 4 rfl rfl)
theorem dX1_encode_214 : decode cX1_encode 214 = .ok (.getfield 26, 3) := dk_180 0 26 (dk_at dksX1_encode_9 5 rfl rfl)
theorem dX1_encode_217 : decode cX1_encode 217 = .ok (.if_icmp .ge 33, 3) := dk_162 0 33 (dk_at dksX1_encode_9 8 rfl rfl)
theorem dX1_encode_220 : decode cX1_encode 220 = .ok (.aload_n 0, 1) := dk_42 (dk_at dksX1_encode_9 11 rfl rfl)
theorem dX1_encode_221 : decode cX1_encode 221 = .ok (.getfield 20, 3) := dk_180 0 20 (dk_at dksX1_encode_9 12 rfl rfl)
theorem dX1_encode_224 : decode cX1_encode 224 = .ok (.aload_n 0, 1) := dk_42 (dk_at dksX1_encode_9 15 rfl rfl)
theorem dX1_encode_225 : decode cX1_encode 225 = .ok (.getfield 30, 3) := dk_180 0 30 (dk_at dksX1_encode_9 16 rfl rfl)
theorem dX1_encode_228 : decode cX1_encode 228 = .ok (.iload 4, 2) := dk_21 4 (dk_at dksX1_encode_9 19 rfl rfl)
theorem dX1_encode_230 : decode cX1_encode 230 = .ok (.iadd, 1) := dk_96 (dk_at dksX1_encode_9 21 rfl rfl)
theorem dX1_encode_231 : decode cX1_encode 231 = .ok (.sipush 929, 3) := dk_17 3 161 (dk_at dksX1_encode_10 0 rfl rfl)
theorem dX1_encode_234 : decode cX1_encode 234 = .ok (.aload_n 3, 1) := dk_45 (dk_at dksX1_encode_10 3 rfl rfl)
theorem dX1_encode_235 : decode cX1_encode 235 = .ok (.iload 4, 2) := dk_21 4 (dk_at dksX1_encode_10 4 rfl rfl)
theorem dX1_encode_237 : decode cX1_encode 237 = .ok (.iaload, 1) := dk_46 (dk_at dksX1_encode_10 6 rfl rfl)
theorem dX1_encode_238 : decode cX1_encode 238 = .ok (.isub, 1) := dk_100 (dk_at dksX1_encode_10 7 rfl rfl)
theorem dX1_encode_239 : decode cX1_encode 239 = .ok (.sipush 929, 3) := dk_17 3 161 (dk_at dksX1_encode_10 8 rfl rfl)
theorem dX1_encode_242 : decode cX1_encode 242 = .ok (.irem, 1) := dk_112 (dk_at dksX1_encode_10 11 rfl rfl)
theorem dX1_encode_243 : decode cX1_encode 243 = .ok (.iastore, 1) := dk_79 (dk_at dksX1_encode_10 12 rfl rfl)
theorem dX1_encode_244 : decode cX1_encode 244 = .ok (.iinc 4 1, 3) := dk_132 4 1 (dk_at dksX1_encode_10 13 rfl rfl)
theorem dX1_encode_247 : decode cX1_encode 247 = .ok (.goto (-36), 3) := dk_167 255 220 (dk_at dksX1_encode_10 16 rfl rfl)
theorem dX1_encode_250 : decode cX1_encode 250 = .ok (.iconst 0, 1) := dk_3 (dk_at dksX1_encode_10 19 rfl rfl)
theorem dX1_encode_251 : decode cX1_encode 251 = .ok (.istore 4, 2) := dk_54 4 (dk_at dksX1_encode_10 20 rfl rfl)
theorem dX1_encode_253 : decode cX1_encode 253 = .ok (.iload 4, 2) := dk_21 4 (dk_at dksX1_encode_10 22 rfl rfl)
theorem dX1_encode_255 : decode cX1_encode 255 = .ok (.aload_n 0, 1) := dk_42 (dk_at dksX1_encode_11 0 rfl rfl)
theorem dX1_encode_256 : decode cX1_encode 256 = .ok (.getfield 30, 3) := dk_180 0 30 (dk_at dksX1_encode_11 1 rfl rfl)
theorem dX1_encode_259 : decode cX1_encode 259 = .ok (.aload_n 0, 1) := dk_42 (dk_at dksX1_encode_11 4 rfl rfl)
theorem dX1_encode_260 : decode cX1_encode 260 = .ok (.getfield 26, 3) := dk_180 0 26 (dk_at dksX1_encode_11 5 rfl rfl)
theorem dX1_encode_263 : decode cX1_encode 263 = .ok (.iadd, 1) := dk_96 (dk_at dksX1_encode_11 8 rfl rfl)
theorem dX1_encode_264 : decode cX1_encode 264 = .ok (.if_icmp .ge 23, 3) := dk_162 0 23 (dk_at dksX1_encode_11 9 rfl rfl)
theorem dX1_encode_267 : decode cX1_encode 267 = .ok (.aload_n 0, 1) := dk_42 (dk_at dksX1_encode_11 12 rfl rfl)
theorem dX1_encode_268 : decode cX1_encode 268 = .ok (.getfield 23, 3) := dk_180 0 23 (dk_at dksX1_encode_11 13 rfl rfl)
theorem dX1_encode_271 : decode cX1_encode 271 = .ok (.iload 4, 2) := dk_21 4 (dk_at dksX1_encode_11 16 rfl rfl)
theorem dX1_encode_273 : decode cX1_encode 273 = .ok (.aload_n 0, 1) := dk_42 (dk_at dksX1_encode_11 18 rfl rfl)
theorem dX1_encode_274 : decode cX1_encode 274 = .ok (.getfield 20, 3) := dk_180 0 20 (dk_at dksX1_encode_11 19 rfl rfl)
theorem dX1_encode_277 : decode cX1_encode 277 = .ok (.iload 4, 2) := dk_21 4 (dk_at dksX1_encode_11 22 rfl rfl)
theorem dX1_encode_279 : decode cX1_encode 279 = .ok (.iaload, 1) := dk_46 (dk_at dksX1_encode_12 0 rfl rfl)
theorem dX1_encode_280 : decode cX1_encode 280 = .ok (.iastore, 1) := dk_79 (dk_at dksX1_encode_12 1 rfl rfl)
theorem dX1_encode_281 : decode cX1_encode 281 = .ok (.iinc 4 1, 3) := dk_132 4 1 (dk_at dksX1_encode_12 2 rfl rfl)
theorem dX1_encode_284 : decode cX1_encode 284 = .ok (.goto (-31), 3) := dk_167 255 225 (dk_at dksX1_encode_12 5 rfl rfl)
theorem dX1_encode_287 : decode cX1_encode 287 = .ok (.aload_n 0, 1) := dk_42 (dk_at dksX1_encode_12 8 rfl rfl)
theorem dX1_encode_288 : decode cX1_encode 288 = .ok (.iconst 1, 1) := dk_4 (dk_at dksX1_encode_12 9 rfl rfl)
theorem dX1_encode_289 : decode cX1_encode 289 = .ok (.putfield 34, 3) := dk_181 0 34 (dk_at dksX1_encode_12 10 rfl rfl)
theorem dX1_encode_292 : decode cX1_encode 292 = .ok (.iconst 1, 1) := dk_4 (dk_at dksX1_encode_12 13 rfl rfl)
theorem dX1_encode_293 : decode cX1_encode 293 = .ok (.ireturn, 1) := dk_172 (dk_at dksX1_encode_12 14 rfl rfl)
abbrev cX1_harm : ByteArray := prog_6_method_6_code
def yX1_harm : MethodName := ⟨RX1, "harm", "(II)Z"⟩
def dkwX1_harm_1 : List UInt8 := [180, 0, 26, 96, 112, 28, 18, 33, 126, 17, 3, 161, 112, 79, 4, 172]
abbrev dktX1_harm_1 : List UInt8 := dkwX1_harm_1 ++ []
def dkwX1_harm_0 : List UInt8 := [42, 180, 0, 34, 154, 0, 5, 3, 172, 42, 180, 0, 23, 27, 18, 33, 126, 42, 180, 0, 30, 42]
abbrev dktX1_harm_0 : List UInt8 := dkwX1_harm_0 ++ dktX1_harm_1
theorem dksX1_harm_0 : cX1_harm.data.toList.drop 0 = dktX1_harm_0 := by decide +kernel
theorem dksX1_harm_1 : cX1_harm.data.toList.drop 22 = dktX1_harm_1 := dk_seg dksX1_harm_0 22 rfl rfl
theorem dX1_harm_0 : decode cX1_harm 0 = .ok (.aload_n 0, 1) := dk_42 (dk_at dksX1_harm_0 0 rfl rfl)
theorem dX1_harm_1 : decode cX1_harm 1 = .ok (.getfield 34, 3) := dk_180 0 34 (dk_at dksX1_harm_0 1 rfl rfl)
theorem dX1_harm_4 : decode cX1_harm 4 = .ok (.ifCond .ne 5, 3) := dk_154 0 5 (dk_at dksX1_harm_0 4 rfl rfl)
theorem dX1_harm_7 : decode cX1_harm 7 = .ok (.iconst 0, 1) := dk_3 (dk_at dksX1_harm_0 7 rfl rfl)
theorem dX1_harm_8 : decode cX1_harm 8 = .ok (.ireturn, 1) := dk_172 (dk_at dksX1_harm_0 8 rfl rfl)
theorem dX1_harm_9 : decode cX1_harm 9 = .ok (.aload_n 0, 1) := dk_42 (dk_at dksX1_harm_0 9 rfl rfl)
theorem dX1_harm_10 : decode cX1_harm 10 = .ok (.getfield 23, 3) := dk_180 0 23 (dk_at dksX1_harm_0 10 rfl rfl)
theorem dX1_harm_13 : decode cX1_harm 13 = .ok (.iload_n 1, 1) := dk_27 (dk_at dksX1_harm_0 13 rfl rfl)
theorem dX1_harm_14 : decode cX1_harm 14 = .ok (.ldc 33, 2) := dk_18 33 (dk_at dksX1_harm_0 14 rfl rfl)
theorem dX1_harm_16 : decode cX1_harm 16 = .ok (.iand, 1) := dk_126 (dk_at dksX1_harm_0 16 rfl rfl)
theorem dX1_harm_17 : decode cX1_harm 17 = .ok (.aload_n 0, 1) := dk_42 (dk_at dksX1_harm_0 17 rfl rfl)
theorem dX1_harm_18 : decode cX1_harm 18 = .ok (.getfield 30, 3) := dk_180 0 30 (dk_at dksX1_harm_0 18 rfl rfl)
theorem dX1_harm_21 : decode cX1_harm 21 = .ok (.aload_n 0, 1) := dk_42 (dk_at dksX1_harm_0 21 rfl rfl)
theorem dX1_harm_22 : decode cX1_harm 22 = .ok (.getfield 26, 3) := dk_180 0 26 (dk_at dksX1_harm_1 0 rfl rfl)
theorem dX1_harm_25 : decode cX1_harm 25 = .ok (.iadd, 1) := dk_96 (dk_at dksX1_harm_1 3 rfl rfl)
theorem dX1_harm_26 : decode cX1_harm 26 = .ok (.irem, 1) := dk_112 (dk_at dksX1_harm_1 4 rfl rfl)
theorem dX1_harm_27 : decode cX1_harm 27 = .ok (.iload_n 2, 1) := dk_28 (dk_at dksX1_harm_1 5 rfl rfl)
theorem dX1_harm_28 : decode cX1_harm 28 = .ok (.ldc 33, 2) := dk_18 33 (dk_at dksX1_harm_1 6 rfl rfl)
theorem dX1_harm_30 : decode cX1_harm 30 = .ok (.iand, 1) := dk_126 (dk_at dksX1_harm_1 8 rfl rfl)
theorem dX1_harm_31 : decode cX1_harm 31 = .ok (.sipush 929, 3) := dk_17 3 161 (dk_at dksX1_harm_1 9 rfl rfl)
theorem dX1_harm_34 : decode cX1_harm 34 = .ok (.irem, 1) := dk_112 (dk_at dksX1_harm_1 12 rfl rfl)
theorem dX1_harm_35 : decode cX1_harm 35 = .ok (.iastore, 1) := dk_79 (dk_at dksX1_harm_1 13 rfl rfl)
theorem dX1_harm_36 : decode cX1_harm 36 = .ok (.iconst 1, 1) := dk_4 (dk_at dksX1_harm_1 14 rfl rfl)
theorem dX1_harm_37 : decode cX1_harm 37 = .ok (.ireturn, 1) := dk_172 (dk_at dksX1_harm_1 15 rfl rfl)
abbrev cX1_got : ByteArray := prog_6_method_7_code
def yX1_got : MethodName := ⟨RX1, "got", "(I)I"⟩
def dkwX1_got_1 : List UInt8 := [112, 46, 167, 0, 4, 2, 172]
abbrev dktX1_got_1 : List UInt8 := dkwX1_got_1 ++ []
def dkwX1_got_0 : List UInt8 := [42, 180, 0, 34, 153, 0, 25, 42, 180, 0, 23, 27, 18, 33, 126, 42, 180, 0, 30, 42, 180, 0, 26, 96]
abbrev dktX1_got_0 : List UInt8 := dkwX1_got_0 ++ dktX1_got_1
theorem dksX1_got_0 : cX1_got.data.toList.drop 0 = dktX1_got_0 := by decide +kernel
theorem dksX1_got_1 : cX1_got.data.toList.drop 24 = dktX1_got_1 := dk_seg dksX1_got_0 24 rfl rfl
theorem dX1_got_0 : decode cX1_got 0 = .ok (.aload_n 0, 1) := dk_42 (dk_at dksX1_got_0 0 rfl rfl)
theorem dX1_got_1 : decode cX1_got 1 = .ok (.getfield 34, 3) := dk_180 0 34 (dk_at dksX1_got_0 1 rfl rfl)
theorem dX1_got_4 : decode cX1_got 4 = .ok (.ifCond .eq 25, 3) := dk_153 0 25 (dk_at dksX1_got_0 4 rfl rfl)
theorem dX1_got_7 : decode cX1_got 7 = .ok (.aload_n 0, 1) := dk_42 (dk_at dksX1_got_0 7 rfl rfl)
theorem dX1_got_8 : decode cX1_got 8 = .ok (.getfield 23, 3) := dk_180 0 23 (dk_at dksX1_got_0 8 rfl rfl)
theorem dX1_got_11 : decode cX1_got 11 = .ok (.iload_n 1, 1) := dk_27 (dk_at dksX1_got_0 11 rfl rfl)
theorem dX1_got_12 : decode cX1_got 12 = .ok (.ldc 33, 2) := dk_18 33 (dk_at dksX1_got_0 12 rfl rfl)
theorem dX1_got_14 : decode cX1_got 14 = .ok (.iand, 1) := dk_126 (dk_at dksX1_got_0 14 rfl rfl)
theorem dX1_got_15 : decode cX1_got 15 = .ok (.aload_n 0, 1) := dk_42 (dk_at dksX1_got_0 15 rfl rfl)
theorem dX1_got_16 : decode cX1_got 16 = .ok (.getfield 30, 3) := dk_180 0 30 (dk_at dksX1_got_0 16 rfl rfl)
theorem dX1_got_19 : decode cX1_got 19 = .ok (.aload_n 0, 1) := dk_42 (dk_at dksX1_got_0 19 rfl rfl)
theorem dX1_got_20 : decode cX1_got 20 = .ok (.getfield 26, 3) := dk_180 0 26 (dk_at dksX1_got_0 20 rfl rfl)
theorem dX1_got_23 : decode cX1_got 23 = .ok (.iadd, 1) := dk_96 (dk_at dksX1_got_0 23 rfl rfl)
theorem dX1_got_24 : decode cX1_got 24 = .ok (.irem, 1) := dk_112 (dk_at dksX1_got_1 0 rfl rfl)
theorem dX1_got_25 : decode cX1_got 25 = .ok (.iaload, 1) := dk_46 (dk_at dksX1_got_1 1 rfl rfl)
theorem dX1_got_26 : decode cX1_got 26 = .ok (.goto 4, 3) := dk_167 0 4 (dk_at dksX1_got_1 2 rfl rfl)
theorem dX1_got_29 : decode cX1_got 29 = .ok (.iconst (-1), 1) := dk_2 (dk_at dksX1_got_1 5 rfl rfl)
theorem dX1_got_30 : decode cX1_got 30 = .ok (.ireturn, 1) := dk_172 (dk_at dksX1_got_1 6 rfl rfl)
abbrev cX1_repair : ByteArray := prog_6_method_8_code
def yX1_repair : MethodName := ⟨RX1, "repair", "()I"⟩
def dkwX1_repair_6 : List UInt8 := [132, 4, 1, 167, 255, 235, 29, 172]
abbrev dktX1_repair_6 : List UInt8 := dkwX1_repair_6 ++ []
def dkwX1_repair_5 : List UInt8 := [2, 172, 3, 54, 4, 21, 4, 44, 190, 162, 0, 20, 42, 180, 0, 23, 21, 4, 44, 21, 4, 46, 79]
abbrev dktX1_repair_5 : List UInt8 := dkwX1_repair_5 ++ dktX1_repair_6
def dkwX1_repair_4 : List UInt8 := [167, 255, 238, 42, 180, 0, 10, 44, 42, 180, 0, 26, 3, 188, 10, 182, 0, 38, 62, 167, 0, 7, 58, 4]
abbrev dktX1_repair_4 : List UInt8 := dkwX1_repair_4 ++ dktX1_repair_5
def dkwX1_repair_3 : List UInt8 := [96, 188, 10, 77, 3, 62, 29, 44, 190, 162, 0, 18, 44, 29, 42, 180, 0, 23, 29, 46, 79, 132, 3, 1]
abbrev dktX1_repair_3 : List UInt8 := dkwX1_repair_3 ++ dktX1_repair_4
def dkwX1_repair_2 : List UInt8 := [167, 255, 222, 5, 27, 104, 42, 180, 0, 26, 164, 0, 6, 16, 254, 172, 42, 180, 0, 30, 42, 180, 0, 26]
abbrev dktX1_repair_2 : List UInt8 := dkwX1_repair_2 ++ dktX1_repair_3
def dkwX1_repair_1 : List UInt8 := [162, 0, 27, 42, 180, 0, 23, 28, 46, 42, 180, 0, 20, 28, 46, 159, 0, 6, 132, 1, 1, 132, 2, 1]
abbrev dktX1_repair_1 : List UInt8 := dkwX1_repair_1 ++ dktX1_repair_2
def dkwX1_repair_0 : List UInt8 := [42, 180, 0, 34, 154, 0, 6, 16, 253, 172, 3, 60, 3, 61, 28, 42, 180, 0, 30, 42, 180, 0, 26, 96]
abbrev dktX1_repair_0 : List UInt8 := dkwX1_repair_0 ++ dktX1_repair_1
theorem dksX1_repair_0 : cX1_repair.data.toList.drop 0 = dktX1_repair_0 := by decide +kernel
theorem dksX1_repair_1 : cX1_repair.data.toList.drop 24 = dktX1_repair_1 := dk_seg dksX1_repair_0 24 rfl rfl
theorem dksX1_repair_2 : cX1_repair.data.toList.drop 48 = dktX1_repair_2 := dk_seg dksX1_repair_1 24 rfl rfl
theorem dksX1_repair_3 : cX1_repair.data.toList.drop 72 = dktX1_repair_3 := dk_seg dksX1_repair_2 24 rfl rfl
theorem dksX1_repair_4 : cX1_repair.data.toList.drop 96 = dktX1_repair_4 := dk_seg dksX1_repair_3 24 rfl rfl
theorem dksX1_repair_5 : cX1_repair.data.toList.drop 120 = dktX1_repair_5 := dk_seg dksX1_repair_4 24 rfl rfl
theorem dksX1_repair_6 : cX1_repair.data.toList.drop 143 = dktX1_repair_6 := dk_seg dksX1_repair_5 23 rfl rfl
theorem dX1_repair_0 : decode cX1_repair 0 = .ok (.aload_n 0, 1) := dk_42 (dk_at dksX1_repair_0 0 rfl rfl)
theorem dX1_repair_1 : decode cX1_repair 1 = .ok (.getfield 34, 3) := dk_180 0 34 (dk_at dksX1_repair_0 1 rfl rfl)
theorem dX1_repair_4 : decode cX1_repair 4 = .ok (.ifCond .ne 6, 3) := dk_154 0 6 (dk_at dksX1_repair_0 4 rfl rfl)
theorem dX1_repair_7 : decode cX1_repair 7 = .ok (.bipush (-3), 2) := dk_16 253 (dk_at dksX1_repair_0 7 rfl rfl)
theorem dX1_repair_9 : decode cX1_repair 9 = .ok (.ireturn, 1) := dk_172 (dk_at dksX1_repair_0 9 rfl rfl)
theorem dX1_repair_10 : decode cX1_repair 10 = .ok (.iconst 0, 1) := dk_3 (dk_at dksX1_repair_0 10 rfl rfl)
theorem dX1_repair_11 : decode cX1_repair 11 = .ok (.istore_n 1, 1) := dk_60 (dk_at dksX1_repair_0 11 rfl rfl)
theorem dX1_repair_12 : decode cX1_repair 12 = .ok (.iconst 0, 1) := dk_3 (dk_at dksX1_repair_0 12 rfl rfl)
theorem dX1_repair_13 : decode cX1_repair 13 = .ok (.istore_n 2, 1) := dk_61 (dk_at dksX1_repair_0 13 rfl rfl)
theorem dX1_repair_14 : decode cX1_repair 14 = .ok (.iload_n 2, 1) := dk_28 (dk_at dksX1_repair_0 14 rfl rfl)
theorem dX1_repair_15 : decode cX1_repair 15 = .ok (.aload_n 0, 1) := dk_42 (dk_at dksX1_repair_0 15 rfl rfl)
theorem dX1_repair_16 : decode cX1_repair 16 = .ok (.getfield 30, 3) := dk_180 0 30 (dk_at dksX1_repair_0 16 rfl rfl)
theorem dX1_repair_19 : decode cX1_repair 19 = .ok (.aload_n 0, 1) := dk_42 (dk_at dksX1_repair_0 19 rfl rfl)
theorem dX1_repair_20 : decode cX1_repair 20 = .ok (.getfield 26, 3) := dk_180 0 26 (dk_at dksX1_repair_0 20 rfl rfl)
theorem dX1_repair_23 : decode cX1_repair 23 = .ok (.iadd, 1) := dk_96 (dk_at dksX1_repair_0 23 rfl rfl)
theorem dX1_repair_24 : decode cX1_repair 24 = .ok (.if_icmp .ge 27, 3) := dk_162 0 27 (dk_at dksX1_repair_1 0 rfl rfl)
theorem dX1_repair_27 : decode cX1_repair 27 = .ok (.aload_n 0, 1) := dk_42 (dk_at dksX1_repair_1 3 rfl rfl)
theorem dX1_repair_28 : decode cX1_repair 28 = .ok (.getfield 23, 3) := dk_180 0 23 (dk_at dksX1_repair_1 4 rfl rfl)
theorem dX1_repair_31 : decode cX1_repair 31 = .ok (.iload_n 2, 1) := dk_28 (dk_at dksX1_repair_1 7 rfl rfl)
theorem dX1_repair_32 : decode cX1_repair 32 = .ok (.iaload, 1) := dk_46 (dk_at dksX1_repair_1 8 rfl rfl)
theorem dX1_repair_33 : decode cX1_repair 33 = .ok (.aload_n 0, 1) := dk_42 (dk_at dksX1_repair_1 9 rfl rfl)
theorem dX1_repair_34 : decode cX1_repair 34 = .ok (.getfield 20, 3) := dk_180 0 20 (dk_at dksX1_repair_1 10 rfl rfl)
theorem dX1_repair_37 : decode cX1_repair 37 = .ok (.iload_n 2, 1) := dk_28 (dk_at dksX1_repair_1 13 rfl rfl)
theorem dX1_repair_38 : decode cX1_repair 38 = .ok (.iaload, 1) := dk_46 (dk_at dksX1_repair_1 14 rfl rfl)
theorem dX1_repair_39 : decode cX1_repair 39 = .ok (.if_icmp .eq 6, 3) := dk_159 0 6 (dk_at dksX1_repair_1 15 rfl rfl)
theorem dX1_repair_42 : decode cX1_repair 42 = .ok (.iinc 1 1, 3) := dk_132 1 1 (dk_at dksX1_repair_1 18 rfl rfl)
theorem dX1_repair_45 : decode cX1_repair 45 = .ok (.iinc 2 1, 3) := dk_132 2 1 (dk_at dksX1_repair_1 21 rfl rfl)
theorem dX1_repair_48 : decode cX1_repair 48 = .ok (.goto (-34), 3) := dk_167 255 222 (dk_at dksX1_repair_2 0 rfl rfl)
theorem dX1_repair_51 : decode cX1_repair 51 = .ok (.iconst 2, 1) := dk_5 (dk_at dksX1_repair_2 3 rfl rfl)
theorem dX1_repair_52 : decode cX1_repair 52 = .ok (.iload_n 1, 1) := dk_27 (dk_at dksX1_repair_2 4 rfl rfl)
theorem dX1_repair_53 : decode cX1_repair 53 = .ok (.imul, 1) := dk_104 (dk_at dksX1_repair_2 5 rfl rfl)
theorem dX1_repair_54 : decode cX1_repair 54 = .ok (.aload_n 0, 1) := dk_42 (dk_at dksX1_repair_2 6 rfl rfl)
theorem dX1_repair_55 : decode cX1_repair 55 = .ok (.getfield 26, 3) := dk_180 0 26 (dk_at dksX1_repair_2 7 rfl rfl)
theorem dX1_repair_58 : decode cX1_repair 58 = .ok (.if_icmp .le 6, 3) := dk_164 0 6 (dk_at dksX1_repair_2 10 rfl rfl)
theorem dX1_repair_61 : decode cX1_repair 61 = .ok (.bipush (-2), 2) := dk_16 254 (dk_at dksX1_repair_2 13 rfl rfl)
theorem dX1_repair_63 : decode cX1_repair 63 = .ok (.ireturn, 1) := dk_172 (dk_at dksX1_repair_2 15 rfl rfl)
theorem dX1_repair_64 : decode cX1_repair 64 = .ok (.aload_n 0, 1) := dk_42 (dk_at dksX1_repair_2 16 rfl rfl)
theorem dX1_repair_65 : decode cX1_repair 65 = .ok (.getfield 30, 3) := dk_180 0 30 (dk_at dksX1_repair_2 17 rfl rfl)
theorem dX1_repair_68 : decode cX1_repair 68 = .ok (.aload_n 0, 1) := dk_42 (dk_at dksX1_repair_2 20 rfl rfl)
theorem dX1_repair_69 : decode cX1_repair 69 = .ok (.getfield 26, 3) := dk_180 0 26 (dk_at dksX1_repair_2 21 rfl rfl)
theorem dX1_repair_72 : decode cX1_repair 72 = .ok (.iadd, 1) := dk_96 (dk_at dksX1_repair_3 0 rfl rfl)
theorem dX1_repair_73 : decode cX1_repair 73 = .ok (.newarray .int, 2) := dk_188_10 (dk_at dksX1_repair_3 1 rfl rfl)
theorem dX1_repair_75 : decode cX1_repair 75 = .ok (.astore_n 2, 1) := dk_77 (dk_at dksX1_repair_3 3 rfl rfl)
theorem dX1_repair_76 : decode cX1_repair 76 = .ok (.iconst 0, 1) := dk_3 (dk_at dksX1_repair_3 4 rfl rfl)
theorem dX1_repair_77 : decode cX1_repair 77 = .ok (.istore_n 3, 1) := dk_62 (dk_at dksX1_repair_3 5 rfl rfl)
theorem dX1_repair_78 : decode cX1_repair 78 = .ok (.iload_n 3, 1) := dk_29 (dk_at dksX1_repair_3 6 rfl rfl)
theorem dX1_repair_79 : decode cX1_repair 79 = .ok (.aload_n 2, 1) := dk_44 (dk_at dksX1_repair_3 7 rfl rfl)
theorem dX1_repair_80 : decode cX1_repair 80 = .ok (.arraylength, 1) := dk_190 (dk_at dksX1_repair_3 8 rfl rfl)
theorem dX1_repair_81 : decode cX1_repair 81 = .ok (.if_icmp .ge 18, 3) := dk_162 0 18 (dk_at dksX1_repair_3 9 rfl rfl)
theorem dX1_repair_84 : decode cX1_repair 84 = .ok (.aload_n 2, 1) := dk_44 (dk_at dksX1_repair_3 12 rfl rfl)
theorem dX1_repair_85 : decode cX1_repair 85 = .ok (.iload_n 3, 1) := dk_29 (dk_at dksX1_repair_3 13 rfl rfl)
theorem dX1_repair_86 : decode cX1_repair 86 = .ok (.aload_n 0, 1) := dk_42 (dk_at dksX1_repair_3 14 rfl rfl)
theorem dX1_repair_87 : decode cX1_repair 87 = .ok (.getfield 23, 3) := dk_180 0 23 (dk_at dksX1_repair_3 15 rfl rfl)
theorem dX1_repair_90 : decode cX1_repair 90 = .ok (.iload_n 3, 1) := dk_29 (dk_at dksX1_repair_3 18 rfl rfl)
theorem dX1_repair_91 : decode cX1_repair 91 = .ok (.iaload, 1) := dk_46 (dk_at dksX1_repair_3 19 rfl rfl)
theorem dX1_repair_92 : decode cX1_repair 92 = .ok (.iastore, 1) := dk_79 (dk_at dksX1_repair_3 20 rfl rfl)
theorem dX1_repair_93 : decode cX1_repair 93 = .ok (.iinc 3 1, 3) := dk_132 3 1 (dk_at dksX1_repair_3 21 rfl rfl)
theorem dX1_repair_96 : decode cX1_repair 96 = .ok (.goto (-18), 3) := dk_167 255 238 (dk_at dksX1_repair_4 0 rfl rfl)
theorem dX1_repair_99 : decode cX1_repair 99 = .ok (.aload_n 0, 1) := dk_42 (dk_at dksX1_repair_4 3 rfl rfl)
theorem dX1_repair_100 : decode cX1_repair 100 = .ok (.getfield 10, 3) := dk_180 0 10 (dk_at dksX1_repair_4 4 rfl rfl)
theorem dX1_repair_103 : decode cX1_repair 103 = .ok (.aload_n 2, 1) := dk_44 (dk_at dksX1_repair_4 7 rfl rfl)
theorem dX1_repair_104 : decode cX1_repair 104 = .ok (.aload_n 0, 1) := dk_42 (dk_at dksX1_repair_4 8 rfl rfl)
theorem dX1_repair_105 : decode cX1_repair 105 = .ok (.getfield 26, 3) := dk_180 0 26 (dk_at dksX1_repair_4 9 rfl rfl)
theorem dX1_repair_108 : decode cX1_repair 108 = .ok (.iconst 0, 1) := dk_3 (dk_at dksX1_repair_4 12 rfl rfl)
theorem dX1_repair_109 : decode cX1_repair 109 = .ok (.newarray .int, 2) := dk_188_10 (dk_at dksX1_repair_4 13 rfl rfl)
theorem dX1_repair_111 : decode cX1_repair 111 = .ok (.invokevirtual 38, 3) := dk_182 0 38 (dk_at dksX1_repair_4 15 rfl rfl)
theorem dX1_repair_114 : decode cX1_repair 114 = .ok (.istore_n 3, 1) := dk_62 (dk_at dksX1_repair_4 18 rfl rfl)
theorem dX1_repair_115 : decode cX1_repair 115 = .ok (.goto 7, 3) := dk_167 0 7 (dk_at dksX1_repair_4 19 rfl rfl)
theorem dX1_repair_118 : decode cX1_repair 118 = .ok (.astore 4, 2) := dk_58 4 (dk_at dksX1_repair_4 22 rfl rfl)
theorem dX1_repair_120 : decode cX1_repair 120 = .ok (.iconst (-1), 1) := dk_2 (dk_at dksX1_repair_5 0 rfl rfl)
theorem dX1_repair_121 : decode cX1_repair 121 = .ok (.ireturn, 1) := dk_172 (dk_at dksX1_repair_5 1 rfl rfl)
theorem dX1_repair_122 : decode cX1_repair 122 = .ok (.iconst 0, 1) := dk_3 (dk_at dksX1_repair_5 2 rfl rfl)
theorem dX1_repair_123 : decode cX1_repair 123 = .ok (.istore 4, 2) := dk_54 4 (dk_at dksX1_repair_5 3 rfl rfl)
theorem dX1_repair_125 : decode cX1_repair 125 = .ok (.iload 4, 2) := dk_21 4 (dk_at dksX1_repair_5 5 rfl rfl)
theorem dX1_repair_127 : decode cX1_repair 127 = .ok (.aload_n 2, 1) := dk_44 (dk_at dksX1_repair_5 7 rfl rfl)
theorem dX1_repair_128 : decode cX1_repair 128 = .ok (.arraylength, 1) := dk_190 (dk_at dksX1_repair_5 8 rfl rfl)
theorem dX1_repair_129 : decode cX1_repair 129 = .ok (.if_icmp .ge 20, 3) := dk_162 0 20 (dk_at dksX1_repair_5 9 rfl rfl)
theorem dX1_repair_132 : decode cX1_repair 132 = .ok (.aload_n 0, 1) := dk_42 (dk_at dksX1_repair_5 12 rfl rfl)
theorem dX1_repair_133 : decode cX1_repair 133 = .ok (.getfield 23, 3) := dk_180 0 23 (dk_at dksX1_repair_5 13 rfl rfl)
theorem dX1_repair_136 : decode cX1_repair 136 = .ok (.iload 4, 2) := dk_21 4 (dk_at dksX1_repair_5 16 rfl rfl)
theorem dX1_repair_138 : decode cX1_repair 138 = .ok (.aload_n 2, 1) := dk_44 (dk_at dksX1_repair_5 18 rfl rfl)
theorem dX1_repair_139 : decode cX1_repair 139 = .ok (.iload 4, 2) := dk_21 4 (dk_at dksX1_repair_5 19 rfl rfl)
theorem dX1_repair_141 : decode cX1_repair 141 = .ok (.iaload, 1) := dk_46 (dk_at dksX1_repair_5 21 rfl rfl)
theorem dX1_repair_142 : decode cX1_repair 142 = .ok (.iastore, 1) := dk_79 (dk_at dksX1_repair_5 22 rfl rfl)
theorem dX1_repair_143 : decode cX1_repair 143 = .ok (.iinc 4 1, 3) := dk_132 4 1 (dk_at dksX1_repair_6 0 rfl rfl)
theorem dX1_repair_146 : decode cX1_repair 146 = .ok (.goto (-21), 3) := dk_167 255 235 (dk_at dksX1_repair_6 3 rfl rfl)
theorem dX1_repair_149 : decode cX1_repair 149 = .ok (.iload_n 3, 1) := dk_29 (dk_at dksX1_repair_6 6 rfl rfl)
theorem dX1_repair_150 : decode cX1_repair 150 = .ok (.ireturn, 1) := dk_172 (dk_at dksX1_repair_6 7 rfl rfl)
theorem q5 : (Jvm.Cond.initialized "PdfRepair") ∈ lw_all := lw_g (lw_at lw_m1 1 rfl) rfl
theorem q18 : (Jvm.Cond.instantiable "PdfRepair" (7 : Nat)) ∈ lw_all := lw_g (lw_at lw_m1 14 rfl) rfl
theorem q20 : (Jvm.Cond.instanceMethod ({ cls := "PdfRepair", name := "<init>", desc := "()V" } : Jvm.MethodName)) ∈ lw_all := lw_g (lw_at lw_m1 16 rfl) rfl
theorem q21 : (Jvm.Cond.code ({ cls := "PdfRepair", name := "<init>", desc := "()V" } : Jvm.MethodName) prog_6_method_1_code (1 : Nat) (Option.none : Option Jvm.ClassFile.FieldType)) ∈ lw_all := lw_g (lw_at lw_m1 17 rfl) rfl
theorem q22 : (Jvm.Cond.methodLink "PdfRepair" (1 : Nat) ({ cls := "java/lang/Object", name := "<init>", desc := "()V" } : Jvm.MethodName)) ∈ lw_all := lw_g (lw_at lw_m1 18 rfl) rfl
theorem q25 : (Jvm.Cond.classLink "PdfRepair" (7 : Nat) "ErrorCorrection") ∈ lw_all := lw_g (lw_at lw_m1 21 rfl) rfl
theorem q27 : (Jvm.Cond.methodLink "PdfRepair" (9 : Nat) ({ cls := "ErrorCorrection", name := "<init>", desc := "()V" } : Jvm.MethodName)) ∈ lw_all := lw_g (lw_at lw_m1 23 rfl) rfl
theorem q37 : (Jvm.Cond.fieldLink "PdfRepair" (10 : Nat) "PdfRepair" "work" "LErrorCorrection;") ∈ lw_all := lw_g (lw_at lw_m1 33 rfl) rfl
theorem q38 : (Jvm.Cond.fieldLink "PdfRepair" (16 : Nat) "PdfRepair" "word" "[I") ∈ lw_all := lw_g (lw_at lw_m1 34 rfl) rfl
theorem q39 : (Jvm.Cond.fieldLink "PdfRepair" (20 : Nat) "PdfRepair" "sent" "[I") ∈ lw_all := lw_g (lw_at lw_m1 35 rfl) rfl
theorem q40 : (Jvm.Cond.fieldLink "PdfRepair" (23 : Nat) "PdfRepair" "got" "[I") ∈ lw_all := lw_g (lw_at lw_m1 36 rfl) rfl
theorem q41 : (Jvm.Cond.fieldLink "PdfRepair" (30 : Nat) "PdfRepair" "data" "I") ∈ lw_all := lw_g (lw_at lw_m1 37 rfl) rfl
theorem q42 : (Jvm.Cond.fieldLink "PdfRepair" (26 : Nat) "PdfRepair" "extra" "I") ∈ lw_all := lw_g (lw_at lw_m1 38 rfl) rfl
theorem q43 : (Jvm.Cond.fieldLink "PdfRepair" (34 : Nat) "PdfRepair" "made" "Z") ∈ lw_all := lw_g (lw_at lw_m1 39 rfl) rfl
theorem q44 : (Jvm.Cond.laysFinal "PdfRepair" "PdfRepair" "work" "LErrorCorrection;") ∈ lw_all := lw_g (lw_at lw_m1 40 rfl) rfl
theorem q45 : (Jvm.Cond.soleField "PdfRepair" "work") ∈ lw_all := lw_g (lw_at lw_m1 41 rfl) rfl
theorem q46 : (Jvm.Cond.laysFinal "PdfRepair" "PdfRepair" "word" "[I") ∈ lw_all := lw_g (lw_at lw_m1 42 rfl) rfl
theorem q47 : (Jvm.Cond.soleField "PdfRepair" "word") ∈ lw_all := lw_g (lw_at lw_m1 43 rfl) rfl
theorem q48 : (Jvm.Cond.laysFinal "PdfRepair" "PdfRepair" "sent" "[I") ∈ lw_all := lw_g (lw_at lw_m1 44 rfl) rfl
theorem q49 : (Jvm.Cond.soleField "PdfRepair" "sent") ∈ lw_all := lw_g (lw_at lw_m1 45 rfl) rfl
theorem q50 : (Jvm.Cond.laysFinal "PdfRepair" "PdfRepair" "got" "[I") ∈ lw_all := lw_g (lw_at lw_m1 46 rfl) rfl
theorem q51 : (Jvm.Cond.soleField "PdfRepair" "got") ∈ lw_all := lw_g (lw_at lw_m1 47 rfl) rfl
theorem q52 : (Jvm.Cond.lays "PdfRepair" "PdfRepair" "data" "I") ∈ lw_all := lw_g (lw_at lw_m1 48 rfl) rfl
theorem q53 : (Jvm.Cond.soleField "PdfRepair" "data") ∈ lw_all := lw_g (lw_at lw_m1 49 rfl) rfl
theorem q54 : (Jvm.Cond.lays "PdfRepair" "PdfRepair" "extra" "I") ∈ lw_all := lw_g (lw_at lw_m1 50 rfl) rfl
theorem q55 : (Jvm.Cond.soleField "PdfRepair" "extra") ∈ lw_all := lw_g (lw_at lw_m1 51 rfl) rfl
theorem q56 : (Jvm.Cond.lays "PdfRepair" "PdfRepair" "made" "Z") ∈ lw_all := lw_g (lw_at lw_m1 52 rfl) rfl
theorem q57 : (Jvm.Cond.soleField "PdfRepair" "made") ∈ lw_all := lw_g (lw_at lw_m1 53 rfl) rfl
theorem q58 : (Jvm.Cond.superclass "PdfRepair" "java/lang/Object") ∈ lw_all := lw_g (lw_at lw_m1 54 rfl) rfl
theorem q61 : (Jvm.Cond.instanceMethod ({ cls := "PdfRepair", name := "put", desc := "(I)Z" } : Jvm.MethodName)) ∈ lw_all := lw_g (lw_at lw_m1 57 rfl) rfl
theorem q62 : (Jvm.Cond.selects "PdfRepair" ({ cls := "PdfRepair", name := "put", desc := "(I)Z" } : Jvm.MethodName) ({ cls := "PdfRepair", name := "put", desc := "(I)Z" } : Jvm.MethodName)) ∈ lw_all := lw_g (lw_at lw_m1 58 rfl) rfl
theorem q63 : (Jvm.Cond.code ({ cls := "PdfRepair", name := "put", desc := "(I)Z" } : Jvm.MethodName) prog_6_method_2_code (2 : Nat) (Option.some Jvm.ClassFile.FieldType.boolean)) ∈ lw_all := lw_g (lw_at lw_m1 59 rfl) rfl
theorem q64 : (Jvm.Cond.constant "PdfRepair" (33 : Nat) (2147483647 : Int32)) ∈ lw_all := lw_g (lw_at lw_m1 60 rfl) rfl
theorem q66 : (Jvm.Cond.instanceMethod ({ cls := "PdfRepair", name := "clear", desc := "(I)V" } : Jvm.MethodName)) ∈ lw_all := lw_g (lw_at lw_m1 62 rfl) rfl
theorem q67 : (Jvm.Cond.selects "PdfRepair" ({ cls := "PdfRepair", name := "clear", desc := "(I)V" } : Jvm.MethodName) ({ cls := "PdfRepair", name := "clear", desc := "(I)V" } : Jvm.MethodName)) ∈ lw_all := lw_g (lw_at lw_m1 63 rfl) rfl
theorem q68 : (Jvm.Cond.code ({ cls := "PdfRepair", name := "clear", desc := "(I)V" } : Jvm.MethodName) prog_6_method_3_code (2 : Nat) (Option.none : Option Jvm.ClassFile.FieldType)) ∈ lw_all := lw_g (lw_at lw_m1 64 rfl) rfl
theorem q70 : (Jvm.Cond.instanceMethod ({ cls := "PdfRepair", name := "size", desc := "()I" } : Jvm.MethodName)) ∈ lw_all := lw_g (lw_at lw_m1 66 rfl) rfl
theorem q71 : (Jvm.Cond.selects "PdfRepair" ({ cls := "PdfRepair", name := "size", desc := "()I" } : Jvm.MethodName) ({ cls := "PdfRepair", name := "size", desc := "()I" } : Jvm.MethodName)) ∈ lw_all := lw_g (lw_at lw_m1 67 rfl) rfl
theorem q72 : (Jvm.Cond.code ({ cls := "PdfRepair", name := "size", desc := "()I" } : Jvm.MethodName) prog_6_method_4_code (1 : Nat) (Option.some Jvm.ClassFile.FieldType.int)) ∈ lw_all := lw_g (lw_at lw_m1 68 rfl) rfl
theorem q74 : (Jvm.Cond.instanceMethod ({ cls := "PdfRepair", name := "encode", desc := "()Z" } : Jvm.MethodName)) ∈ lw_all := lw_g (lw_at lw_m1 70 rfl) rfl
theorem q75 : (Jvm.Cond.selects "PdfRepair" ({ cls := "PdfRepair", name := "encode", desc := "()Z" } : Jvm.MethodName) ({ cls := "PdfRepair", name := "encode", desc := "()Z" } : Jvm.MethodName)) ∈ lw_all := lw_g (lw_at lw_m1 71 rfl) rfl
theorem q76 : (Jvm.Cond.code ({ cls := "PdfRepair", name := "encode", desc := "()Z" } : Jvm.MethodName) prog_6_method_5_code (8 : Nat) (Option.some Jvm.ClassFile.FieldType.boolean)) ∈ lw_all := lw_g (lw_at lw_m1 72 rfl) rfl
theorem q78 : (Jvm.Cond.instanceMethod ({ cls := "PdfRepair", name := "harm", desc := "(II)Z" } : Jvm.MethodName)) ∈ lw_all := lw_g (lw_at lw_m1 74 rfl) rfl
theorem q79 : (Jvm.Cond.selects "PdfRepair" ({ cls := "PdfRepair", name := "harm", desc := "(II)Z" } : Jvm.MethodName) ({ cls := "PdfRepair", name := "harm", desc := "(II)Z" } : Jvm.MethodName)) ∈ lw_all := lw_g (lw_at lw_m1 75 rfl) rfl
theorem q80 : (Jvm.Cond.code ({ cls := "PdfRepair", name := "harm", desc := "(II)Z" } : Jvm.MethodName) prog_6_method_6_code (3 : Nat) (Option.some Jvm.ClassFile.FieldType.boolean)) ∈ lw_all := lw_g (lw_at lw_m1 76 rfl) rfl
theorem q82 : (Jvm.Cond.instanceMethod ({ cls := "PdfRepair", name := "got", desc := "(I)I" } : Jvm.MethodName)) ∈ lw_all := lw_g (lw_at lw_m1 78 rfl) rfl
theorem q83 : (Jvm.Cond.selects "PdfRepair" ({ cls := "PdfRepair", name := "got", desc := "(I)I" } : Jvm.MethodName) ({ cls := "PdfRepair", name := "got", desc := "(I)I" } : Jvm.MethodName)) ∈ lw_all := lw_g (lw_at lw_m1 79 rfl) rfl
theorem q84 : (Jvm.Cond.code ({ cls := "PdfRepair", name := "got", desc := "(I)I" } : Jvm.MethodName) prog_6_method_7_code (2 : Nat) (Option.some Jvm.ClassFile.FieldType.int)) ∈ lw_all := lw_g (lw_at lw_m1 80 rfl) rfl
theorem q86 : (Jvm.Cond.instanceMethod ({ cls := "PdfRepair", name := "repair", desc := "()I" } : Jvm.MethodName)) ∈ lw_all := lw_g (lw_at lw_m1 82 rfl) rfl
theorem q87 : (Jvm.Cond.selects "PdfRepair" ({ cls := "PdfRepair", name := "repair", desc := "()I" } : Jvm.MethodName) ({ cls := "PdfRepair", name := "repair", desc := "()I" } : Jvm.MethodName)) ∈ lw_all := lw_g (lw_at lw_m1 83 rfl) rfl
theorem q88 : (Jvm.Cond.codeWith ({ cls := "PdfRepair", name := "repair", desc := "()I" } : Jvm.MethodName) prog_6_method_8_code (5 : Nat) (Option.some Jvm.ClassFile.FieldType.int) [((99 : Nat), (115 : Nat), (118 : Nat), (42 : Nat))]) ∈ lw_all := lw_g (lw_at lw_m1 84 rfl) rfl
theorem q89 : (Jvm.Cond.classLink "PdfRepair" (42 : Nat) "ChecksumException") ∈ lw_all := lw_g (lw_at lw_m1 85 rfl) rfl
theorem q90 : (Jvm.Cond.methodLink "PdfRepair" (38 : Nat) ({ cls := "ErrorCorrection", name := "decode", desc := "([II[I)I" } : Jvm.MethodName)) ∈ lw_all := lw_g (lw_at lw_m1 86 rfl) rfl
theorem in_X1 : ∀ w ∈ wsX10, w ∈ lw_all := lw_in wsX10 [44, 46, 48, 50, 52, 54, 56] (by decide +kernel) (by decide +kernel)

/-! ErrorCorrection -/
set_option maxRecDepth 100000
def RX2 : String := "ErrorCorrection"
def TX2 : u_T := fun k => match k with
  | _ => ("ErrorCorrection", "field", "LModulusGF;", true)
def tyX2 : Nat → FieldType := fun k => match k with
  | _ => .object "ModulusGF"
abbrev wsX20 : List Cond := u_ws RX2 TX2 1
theorem nmX2 : ∀ a, a < 1 → ∀ b, b < 1 → a ≠ b → (TX2 a).2.1 ≠ (TX2 b).2.1 := by decide +kernel
theorem tyX2_ok : ∀ k, k < 1 → parseFieldDescriptor (TX2 k).2.2.1 = some (tyX2 k) := by decide +kernel
abbrev cX2_init : ByteArray := prog_2_method_1_code
def yX2_init : MethodName := ⟨RX2, "<init>", "()V"⟩
def dkwX2_init_0 : List UInt8 := [42, 183, 0, 1, 42, 178, 0, 7, 181, 0, 13, 177]
abbrev dktX2_init_0 : List UInt8 := dkwX2_init_0 ++ []
theorem dksX2_init_0 : cX2_init.data.toList.drop 0 = dktX2_init_0 := by decide +kernel
theorem dX2_init_0 : decode cX2_init 0 = .ok (.aload_n 0, 1) := dk_42 (dk_at dksX2_init_0 0 rfl rfl)
theorem dX2_init_1 : decode cX2_init 1 = .ok (.invokespecial 1, 3) := dk_183 0 1 (dk_at dksX2_init_0 1 rfl rfl)
theorem dX2_init_4 : decode cX2_init 4 = .ok (.aload_n 0, 1) := dk_42 (dk_at dksX2_init_0 4 rfl rfl)
theorem dX2_init_5 : decode cX2_init 5 = .ok (.getstatic 7, 3) := dk_178 0 7 (dk_at dksX2_init_0 5 rfl rfl)
theorem dX2_init_8 : decode cX2_init 8 = .ok (.putfield 13, 3) := dk_181 0 13 (dk_at dksX2_init_0 8 rfl rfl)
theorem dX2_init_11 : decode cX2_init 11 = .ok (.return_, 1) := dk_177 (dk_at dksX2_init_0 11 rfl rfl)
abbrev cX2_decode : ByteArray := prog_2_method_2_code
def yX2_decode : MethodName := ⟨RX2, "decode", "([II[I)I"⟩
def dkwX2_decode_13 : List UInt8 := [132, 14, 1, 167, 255, 197, 25, 12, 190, 172]
abbrev dktX2_decode_13 : List UInt8 := dkwX2_decode_13 ++ []
def dkwX2_decode_12 : List UInt8 := [184, 0, 61, 191, 43, 21, 15, 42, 180, 0, 13, 43, 21, 15, 46, 25, 13, 21, 14, 46, 182, 0, 34, 79]
abbrev dktX2_decode_12 : List UInt8 := dkwX2_decode_12 ++ dktX2_decode_13
def dkwX2_decode_11 : List UInt8 := [4, 100, 42, 180, 0, 13, 25, 12, 21, 14, 46, 182, 0, 58, 100, 54, 15, 21, 15, 156, 0, 7]
abbrev dktX2_decode_11 : List UInt8 := dkwX2_decode_11 ++ dktX2_decode_12
def dkwX2_decode_10 : List UInt8 := [25, 11, 25, 10, 25, 12, 182, 0, 54, 58, 13, 3, 54, 14, 21, 14, 25, 12, 190, 162, 0, 57, 43, 190]
abbrev dktX2_decode_10 : List UInt8 := dkwX2_decode_10 ++ dktX2_decode_11
def dkwX2_decode_9 : List UInt8 := [58, 9, 25, 9, 3, 50, 58, 10, 25, 9, 4, 50, 58, 11, 42, 25, 10, 182, 0, 50, 58, 12, 42]
abbrev dktX2_decode_9 : List UInt8 := dkwX2_decode_9 ++ dktX2_decode_10
def dkwX2_decode_8 : List UInt8 := [25, 5, 183, 0, 20, 58, 8, 42, 42, 180, 0, 13, 28, 4, 182, 0, 42, 25, 8, 28, 182, 0, 46]
abbrev dktX2_decode_8 : List UInt8 := dkwX2_decode_8 ++ dktX2_decode_9
def dkwX2_decode_7 : List UInt8 := [25, 7, 25, 13, 182, 0, 38, 58, 7, 132, 10, 1, 167, 255, 181, 187, 0, 18, 89, 42, 180, 0, 13]
abbrev dktX2_decode_7 : List UInt8 := dkwX2_decode_7 ++ dktX2_decode_8
def dkwX2_decode_6 : List UInt8 := [188, 10, 89, 3, 42, 180, 0, 13, 3, 21, 12, 182, 0, 34, 79, 89, 4, 4, 79, 183, 0, 20, 58, 13]
abbrev dktX2_decode_6 : List UInt8 := dkwX2_decode_6 ++ dktX2_decode_7
def dkwX2_decode_5 : List UInt8 := [180, 0, 13, 43, 190, 4, 100, 21, 11, 100, 182, 0, 23, 54, 12, 187, 0, 18, 89, 42, 180, 0, 13, 5]
abbrev dktX2_decode_5 : List UInt8 := dkwX2_decode_5 ++ dktX2_decode_6
def dkwX2_decode_4 : List UInt8 := [25, 8, 190, 54, 9, 3, 54, 10, 21, 10, 21, 9, 162, 0, 74, 25, 8, 21, 10, 46, 54, 11, 42]
abbrev dktX2_decode_4 : List UInt8 := dkwX2_decode_4 ++ dktX2_decode_5
def dkwX2_decode_3 : List UInt8 := [21, 6, 154, 0, 5, 3, 172, 42, 180, 0, 13, 182, 0, 30, 58, 7, 45, 198, 0, 92, 45, 58, 8]
abbrev dktX2_decode_3 : List UInt8 := dkwX2_decode_3 ++ dktX2_decode_4
def dkwX2_decode_2 : List UInt8 := [25, 5, 28, 21, 7, 100, 21, 8, 79, 21, 8, 153, 0, 6, 4, 54, 6, 132, 7, 255, 167, 255, 215]
abbrev dktX2_decode_2 : List UInt8 := dkwX2_decode_2 ++ dktX2_decode_3
def dkwX2_decode_1 : List UInt8 := [54, 7, 21, 7, 158, 0, 42, 25, 4, 42, 180, 0, 13, 21, 7, 182, 0, 23, 182, 0, 27, 54, 8]
abbrev dktX2_decode_1 : List UInt8 := dkwX2_decode_1 ++ dktX2_decode_2
def dkwX2_decode_0 : List UInt8 := [187, 0, 18, 89, 42, 180, 0, 13, 43, 183, 0, 20, 58, 4, 28, 188, 10, 58, 5, 3, 54, 6, 28]
abbrev dktX2_decode_0 : List UInt8 := dkwX2_decode_0 ++ dktX2_decode_1
theorem dksX2_decode_0 : cX2_decode.data.toList.drop 0 = dktX2_decode_0 := by decide +kernel
theorem dksX2_decode_1 : cX2_decode.data.toList.drop 23 = dktX2_decode_1 := dk_seg dksX2_decode_0 23 rfl rfl
theorem dksX2_decode_2 : cX2_decode.data.toList.drop 46 = dktX2_decode_2 := dk_seg dksX2_decode_1 23 rfl rfl
theorem dksX2_decode_3 : cX2_decode.data.toList.drop 69 = dktX2_decode_3 := dk_seg dksX2_decode_2 23 rfl rfl
theorem dksX2_decode_4 : cX2_decode.data.toList.drop 92 = dktX2_decode_4 := dk_seg dksX2_decode_3 23 rfl rfl
theorem dksX2_decode_5 : cX2_decode.data.toList.drop 115 = dktX2_decode_5 := dk_seg dksX2_decode_4 23 rfl rfl
theorem dksX2_decode_6 : cX2_decode.data.toList.drop 139 = dktX2_decode_6 := dk_seg dksX2_decode_5 24 rfl rfl
theorem dksX2_decode_7 : cX2_decode.data.toList.drop 163 = dktX2_decode_7 := dk_seg dksX2_decode_6 24 rfl rfl
theorem dksX2_decode_8 : cX2_decode.data.toList.drop 186 = dktX2_decode_8 := dk_seg dksX2_decode_7 23 rfl rfl
theorem dksX2_decode_9 : cX2_decode.data.toList.drop 209 = dktX2_decode_9 := dk_seg dksX2_decode_8 23 rfl rfl
theorem dksX2_decode_10 : cX2_decode.data.toList.drop 232 = dktX2_decode_10 := dk_seg dksX2_decode_9 23 rfl rfl
theorem dksX2_decode_11 : cX2_decode.data.toList.drop 256 = dktX2_decode_11 := dk_seg dksX2_decode_10 24 rfl rfl
theorem dksX2_decode_12 : cX2_decode.data.toList.drop 278 = dktX2_decode_12 := dk_seg dksX2_decode_11 22 rfl rfl
theorem dksX2_decode_13 : cX2_decode.data.toList.drop 302 = dktX2_decode_13 := dk_seg dksX2_decode_12 24 rfl rfl
theorem dX2_decode_0 : decode cX2_decode 0 = .ok (.new 18, 3) := dk_187 0 18 (dk_at dksX2_decode_0 0 rfl rfl)
theorem dX2_decode_3 : decode cX2_decode 3 = .ok (.dup, 1) := dk_89 (dk_at dksX2_decode_0 3 rfl rfl)
theorem dX2_decode_4 : decode cX2_decode 4 = .ok (.aload_n 0, 1) := dk_42 (dk_at dksX2_decode_0 4 rfl rfl)
theorem dX2_decode_5 : decode cX2_decode 5 = .ok (.getfield 13, 3) := dk_180 0 13 (dk_at dksX2_decode_0 5 rfl rfl)
theorem dX2_decode_8 : decode cX2_decode 8 = .ok (.aload_n 1, 1) := dk_43 (dk_at dksX2_decode_0 8 rfl rfl)
theorem dX2_decode_9 : decode cX2_decode 9 = .ok (.invokespecial 20, 3) := dk_183 0 20 (dk_at dksX2_decode_0 9 rfl rfl)
theorem dX2_decode_12 : decode cX2_decode 12 = .ok (.astore 4, 2) := dk_58 4 (dk_at dksX2_decode_0 12 rfl rfl)
theorem dX2_decode_14 : decode cX2_decode 14 = .ok (.iload_n 2, 1) := dk_28 (dk_at dksX2_decode_0 14 rfl rfl)
theorem dX2_decode_15 : decode cX2_decode 15 = .ok (.newarray .int, 2) := dk_188_10 (dk_at dksX2_decode_0 15 rfl rfl)
theorem dX2_decode_17 : decode cX2_decode 17 = .ok (.astore 5, 2) := dk_58 5 (dk_at dksX2_decode_0 17 rfl rfl)
theorem dX2_decode_19 : decode cX2_decode 19 = .ok (.iconst 0, 1) := dk_3 (dk_at dksX2_decode_0 19 rfl rfl)
theorem dX2_decode_20 : decode cX2_decode 20 = .ok (.istore 6, 2) := dk_54 6 (dk_at dksX2_decode_0 20 rfl rfl)
theorem dX2_decode_22 : decode cX2_decode 22 = .ok (.iload_n 2, 1) := dk_28 (dk_at dksX2_decode_0 22 rfl rfl)
theorem dX2_decode_23 : decode cX2_decode 23 = .ok (.istore 7, 2) := dk_54 7 (dk_at dksX2_decode_1 0 rfl rfl)
theorem dX2_decode_25 : decode cX2_decode 25 = .ok (.iload 7, 2) := dk_21 7 (dk_at dksX2_decode_1 2 rfl rfl)
theorem dX2_decode_27 : decode cX2_decode 27 = .ok (.ifCond .le 42, 3) := dk_158 0 42 (dk_at dksX2_decode_1 4 rfl rfl)
theorem dX2_decode_30 : decode cX2_decode 30 = .ok (.aload 4, 2) := dk_25 4 (dk_at dksX2_decode_1 7 rfl rfl)
theorem dX2_decode_32 : decode cX2_decode 32 = .ok (.aload_n 0, 1) := dk_42 (dk_at dksX2_decode_1 9 rfl rfl)
theorem dX2_decode_33 : decode cX2_decode 33 = .ok (.getfield 13, 3) := dk_180 0 13 (dk_at dksX2_decode_1 10 rfl rfl)
theorem dX2_decode_36 : decode cX2_decode 36 = .ok (.iload 7, 2) := dk_21 7 (dk_at dksX2_decode_1 13 rfl rfl)
theorem dX2_decode_38 : decode cX2_decode 38 = .ok (.invokevirtual 23, 3) := dk_182 0 23 (dk_at dksX2_decode_1 15 rfl rfl)
theorem dX2_decode_41 : decode cX2_decode 41 = .ok (.invokevirtual 27, 3) := dk_182 0 27 (dk_at dksX2_decode_1 18 rfl rfl)
theorem dX2_decode_44 : decode cX2_decode 44 = .ok (.istore 8, 2) := dk_54 8 (dk_at dksX2_decode_1 21 rfl rfl)
theorem dX2_decode_46 : decode cX2_decode 46 = .ok (.aload 5, 2) := dk_25 5 (dk_at dksX2_decode_2 0 rfl rfl)
theorem dX2_decode_48 : decode cX2_decode 48 = .ok (.iload_n 2, 1) := dk_28 (dk_at dksX2_decode_2 2 rfl rfl)
theorem dX2_decode_49 : decode cX2_decode 49 = .ok (.iload 7, 2) := dk_21 7 (dk_at dksX2_decode_2 3 rfl rfl)
theorem dX2_decode_51 : decode cX2_decode 51 = .ok (.isub, 1) := dk_100 (dk_at dksX2_decode_2 5 rfl rfl)
theorem dX2_decode_52 : decode cX2_decode 52 = .ok (.iload 8, 2) := dk_21 8 (dk_at dksX2_decode_2 6 rfl rfl)
theorem dX2_decode_54 : decode cX2_decode 54 = .ok (.iastore, 1) := dk_79 (dk_at dksX2_decode_2 8 rfl rfl)
theorem dX2_decode_55 : decode cX2_decode 55 = .ok (.iload 8, 2) := dk_21 8 (dk_at dksX2_decode_2 9 rfl rfl)
theorem dX2_decode_57 : decode cX2_decode 57 = .ok (.ifCond .eq 6, 3) := dk_153 0 6 (dk_at dksX2_decode_2 11 rfl rfl)
theorem dX2_decode_60 : decode cX2_decode 60 = .ok (.iconst 1, 1) := dk_4 (dk_at dksX2_decode_2 14 rfl rfl)
theorem dX2_decode_61 : decode cX2_decode 61 = .ok (.istore 6, 2) := dk_54 6 (dk_at dksX2_decode_2 15 rfl rfl)
theorem dX2_decode_63 : decode cX2_decode 63 = .ok (.iinc 7 (-1), 3) := dk_132 7 255 (dk_at dksX2_decode_2 17 rfl rfl)
theorem dX2_decode_66 : decode cX2_decode 66 = .ok (.goto (-41), 3) := dk_167 255 215 (dk_at dksX2_decode_2 20 rfl rfl)
theorem dX2_decode_69 : decode cX2_decode 69 = .ok (.iload 6, 2) := dk_21 6 (dk_at dksX2_decode_3 0 rfl rfl)
theorem dX2_decode_71 : decode cX2_decode 71 = .ok (.ifCond .ne 5, 3) := dk_154 0 5 (dk_at dksX2_decode_3 2 rfl rfl)
theorem dX2_decode_74 : decode cX2_decode 74 = .ok (.iconst 0, 1) := dk_3 (dk_at dksX2_decode_3 5 rfl rfl)
theorem dX2_decode_75 : decode cX2_decode 75 = .ok (.ireturn, 1) := dk_172 (dk_at dksX2_decode_3 6 rfl rfl)
theorem dX2_decode_76 : decode cX2_decode 76 = .ok (.aload_n 0, 1) := dk_42 (dk_at dksX2_decode_3 7 rfl rfl)
theorem dX2_decode_77 : decode cX2_decode 77 = .ok (.getfield 13, 3) := dk_180 0 13 (dk_at dksX2_decode_3 8 rfl rfl)
theorem dX2_decode_80 : decode cX2_decode 80 = .ok (.invokevirtual 30, 3) := dk_182 0 30 (dk_at dksX2_decode_3 11 rfl rfl)
theorem dX2_decode_83 : decode cX2_decode 83 = .ok (.astore 7, 2) := dk_58 7 (dk_at dksX2_decode_3 14 rfl rfl)
theorem dX2_decode_85 : decode cX2_decode 85 = .ok (.aload_n 3, 1) := dk_45 (dk_at dksX2_decode_3 16 rfl rfl)
theorem dX2_decode_86 : decode cX2_decode 86 = .ok (.ifnull 92, 3) := dk_198 0 92 (dk_at dksX2_decode_3 17 rfl rfl)
theorem dX2_decode_89 : decode cX2_decode 89 = .ok (.aload_n 3, 1) := dk_45 (dk_at dksX2_decode_3 20 rfl rfl)
theorem dX2_decode_90 : decode cX2_decode 90 = .ok (.astore 8, 2) := dk_58 8 (dk_at dksX2_decode_3 21 rfl rfl)
theorem dX2_decode_92 : decode cX2_decode 92 = .ok (.aload 8, 2) := dk_25 8 (dk_at dksX2_decode_4 0 rfl rfl)
theorem dX2_decode_94 : decode cX2_decode 94 = .ok (.arraylength, 1) := dk_190 (dk_at dksX2_decode_4 2 rfl rfl)
theorem dX2_decode_95 : decode cX2_decode 95 = .ok (.istore 9, 2) := dk_54 9 (dk_at dksX2_decode_4 3 rfl rfl)
theorem dX2_decode_97 : decode cX2_decode 97 = .ok (.iconst 0, 1) := dk_3 (dk_at dksX2_decode_4 5 rfl rfl)
theorem dX2_decode_98 : decode cX2_decode 98 = .ok (.istore 10, 2) := dk_54 10 (dk_at dksX2_decode_4 6 rfl rfl)
theorem dX2_decode_100 : decode cX2_decode 100 = .ok (.iload 10, 2) := dk_21 10 (dk_at dksX2_decode_4 8 rfl rfl)
theorem dX2_decode_102 : decode cX2_decode 102 = .ok (.iload 9, 2) := dk_21 9 (dk_at dksX2_decode_4 10 rfl rfl)
theorem dX2_decode_104 : decode cX2_decode 104 = .ok (.if_icmp .ge 74, 3) := dk_162 0 74 (dk_at dksX2_decode_4 12 rfl rfl)
theorem dX2_decode_107 : decode cX2_decode 107 = .ok (.aload 8, 2) := dk_25 8 (dk_at dksX2_decode_4 15 rfl rfl)
theorem dX2_decode_109 : decode cX2_decode 109 = .ok (.iload 10, 2) := dk_21 10 (dk_at dksX2_decode_4 17 rfl rfl)
theorem dX2_decode_111 : decode cX2_decode 111 = .ok (.iaload, 1) := dk_46 (dk_at dksX2_decode_4 19 rfl rfl)
theorem dX2_decode_112 : decode cX2_decode 112 = .ok (.istore 11, 2) := dk_54 11 (dk_at dksX2_decode_4 20 rfl rfl)
theorem dX2_decode_114 : decode cX2_decode 114 = .ok (.aload_n 0, 1) := dk_42 (dk_at dksX2_decode_4 22 rfl rfl)
theorem dX2_decode_115 : decode cX2_decode 115 = .ok (.getfield 13, 3) := dk_180 0 13 (dk_at dksX2_decode_5 0 rfl rfl)
theorem dX2_decode_118 : decode cX2_decode 118 = .ok (.aload_n 1, 1) := dk_43 (dk_at dksX2_decode_5 3 rfl rfl)
theorem dX2_decode_119 : decode cX2_decode 119 = .ok (.arraylength, 1) := dk_190 (dk_at dksX2_decode_5 4 rfl rfl)
theorem dX2_decode_120 : decode cX2_decode 120 = .ok (.iconst 1, 1) := dk_4 (dk_at dksX2_decode_5 5 rfl rfl)
theorem dX2_decode_121 : decode cX2_decode 121 = .ok (.isub, 1) := dk_100 (dk_at dksX2_decode_5 6 rfl rfl)
theorem dX2_decode_122 : decode cX2_decode 122 = .ok (.iload 11, 2) := dk_21 11 (dk_at dksX2_decode_5 7 rfl rfl)
theorem dX2_decode_124 : decode cX2_decode 124 = .ok (.isub, 1) := dk_100 (dk_at dksX2_decode_5 9 rfl rfl)
theorem dX2_decode_125 : decode cX2_decode 125 = .ok (.invokevirtual 23, 3) := dk_182 0 23 (dk_at dksX2_decode_5 10 rfl rfl)
theorem dX2_decode_128 : decode cX2_decode 128 = .ok (.istore 12, 2) := dk_54 12 (dk_at dksX2_decode_5 13 rfl rfl)
theorem dX2_decode_130 : decode cX2_decode 130 = .ok (.new 18, 3) := dk_187 0 18 (dk_at dksX2_decode_5 15 rfl rfl)
theorem dX2_decode_133 : decode cX2_decode 133 = .ok (.dup, 1) := dk_89 (dk_at dksX2_decode_5 18 rfl rfl)
theorem dX2_decode_134 : decode cX2_decode 134 = .ok (.aload_n 0, 1) := dk_42 (dk_at dksX2_decode_5 19 rfl rfl)
theorem dX2_decode_135 : decode cX2_decode 135 = .ok (.getfield 13, 3) := dk_180 0 13 (dk_at dksX2_decode_5 20 rfl rfl)
theorem dX2_decode_138 : decode cX2_decode 138 = .ok (.iconst 2, 1) := dk_5 (dk_at dksX2_decode_5 23 rfl rfl)
theorem dX2_decode_139 : decode cX2_decode 139 = .ok (.newarray .int, 2) := dk_188_10 (dk_at dksX2_decode_6 0 rfl rfl)
theorem dX2_decode_141 : decode cX2_decode 141 = .ok (.dup, 1) := dk_89 (dk_at dksX2_decode_6 2 rfl rfl)
theorem dX2_decode_142 : decode cX2_decode 142 = .ok (.iconst 0, 1) := dk_3 (dk_at dksX2_decode_6 3 rfl rfl)
theorem dX2_decode_143 : decode cX2_decode 143 = .ok (.aload_n 0, 1) := dk_42 (dk_at dksX2_decode_6 4 rfl rfl)
theorem dX2_decode_144 : decode cX2_decode 144 = .ok (.getfield 13, 3) := dk_180 0 13 (dk_at dksX2_decode_6 5 rfl rfl)
theorem dX2_decode_147 : decode cX2_decode 147 = .ok (.iconst 0, 1) := dk_3 (dk_at dksX2_decode_6 8 rfl rfl)
theorem dX2_decode_148 : decode cX2_decode 148 = .ok (.iload 12, 2) := dk_21 12 (dk_at dksX2_decode_6 9 rfl rfl)
theorem dX2_decode_150 : decode cX2_decode 150 = .ok (.invokevirtual 34, 3) := dk_182 0 34 (dk_at dksX2_decode_6 11 rfl rfl)
theorem dX2_decode_153 : decode cX2_decode 153 = .ok (.iastore, 1) := dk_79 (dk_at dksX2_decode_6 14 rfl rfl)
theorem dX2_decode_154 : decode cX2_decode 154 = .ok (.dup, 1) := dk_89 (dk_at dksX2_decode_6 15 rfl rfl)
theorem dX2_decode_155 : decode cX2_decode 155 = .ok (.iconst 1, 1) := dk_4 (dk_at dksX2_decode_6 16 rfl rfl)
theorem dX2_decode_156 : decode cX2_decode 156 = .ok (.iconst 1, 1) := dk_4 (dk_at dksX2_decode_6 17 rfl rfl)
theorem dX2_decode_157 : decode cX2_decode 157 = .ok (.iastore, 1) := dk_79 (dk_at dksX2_decode_6 18 rfl rfl)
theorem dX2_decode_158 : decode cX2_decode 158 = .ok (.invokespecial 20, 3) := dk_183 0 20 (dk_at dksX2_decode_6 19 rfl rfl)
theorem dX2_decode_161 : decode cX2_decode 161 = .ok (.astore 13, 2) := dk_58 13 (dk_at dksX2_decode_6 22 rfl rfl)
theorem dX2_decode_163 : decode cX2_decode 163 = .ok (.aload 7, 2) := dk_25 7 (dk_at dksX2_decode_7 0 rfl rfl)
theorem dX2_decode_165 : decode cX2_decode 165 = .ok (.aload 13, 2) := dk_25 13 (dk_at dksX2_decode_7 2 rfl rfl)
theorem dX2_decode_167 : decode cX2_decode 167 = .ok (.invokevirtual 38, 3) := dk_182 0 38 (dk_at dksX2_decode_7 4 rfl rfl)
theorem dX2_decode_170 : decode cX2_decode 170 = .ok (.astore 7, 2) := dk_58 7 (dk_at dksX2_decode_7 7 rfl rfl)
theorem dX2_decode_172 : decode cX2_decode 172 = .ok (.iinc 10 1, 3) := dk_132 10 1 (dk_at dksX2_decode_7 9 rfl rfl)
theorem dX2_decode_175 : decode cX2_decode 175 = .ok (.goto (-75), 3) := dk_167 255 181 (dk_at dksX2_decode_7 12 rfl rfl)
theorem dX2_decode_178 : decode cX2_decode 178 = .ok (.new 18, 3) := dk_187 0 18 (dk_at dksX2_decode_7 15 rfl rfl)
theorem dX2_decode_181 : decode cX2_decode 181 = .ok (.dup, 1) := dk_89 (dk_at dksX2_decode_7 18 rfl rfl)
theorem dX2_decode_182 : decode cX2_decode 182 = .ok (.aload_n 0, 1) := dk_42 (dk_at dksX2_decode_7 19 rfl rfl)
theorem dX2_decode_183 : decode cX2_decode 183 = .ok (.getfield 13, 3) := dk_180 0 13 (dk_at dksX2_decode_7 20 rfl rfl)
theorem dX2_decode_186 : decode cX2_decode 186 = .ok (.aload 5, 2) := dk_25 5 (dk_at dksX2_decode_8 0 rfl rfl)
theorem dX2_decode_188 : decode cX2_decode 188 = .ok (.invokespecial 20, 3) := dk_183 0 20 (dk_at dksX2_decode_8 2 rfl rfl)
theorem dX2_decode_191 : decode cX2_decode 191 = .ok (.astore 8, 2) := dk_58 8 (dk_at dksX2_decode_8 5 rfl rfl)
theorem dX2_decode_193 : decode cX2_decode 193 = .ok (.aload_n 0, 1) := dk_42 (dk_at dksX2_decode_8 7 rfl rfl)
theorem dX2_decode_194 : decode cX2_decode 194 = .ok (.aload_n 0, 1) := dk_42 (dk_at dksX2_decode_8 8 rfl rfl)
theorem dX2_decode_195 : decode cX2_decode 195 = .ok (.getfield 13, 3) := dk_180 0 13 (dk_at dksX2_decode_8 9 rfl rfl)
theorem dX2_decode_198 : decode cX2_decode 198 = .ok (.iload_n 2, 1) := dk_28 (dk_at dksX2_decode_8 12 rfl rfl)
theorem dX2_decode_199 : decode cX2_decode 199 = .ok (.iconst 1, 1) := dk_4 (dk_at dksX2_decode_8 13 rfl rfl)
theorem dX2_decode_200 : decode cX2_decode 200 = .ok (.invokevirtual 42, 3) := dk_182 0 42 (dk_at dksX2_decode_8 14 rfl rfl)
theorem dX2_decode_203 : decode cX2_decode 203 = .ok (.aload 8, 2) := dk_25 8 (dk_at dksX2_decode_8 17 rfl rfl)
theorem dX2_decode_205 : decode cX2_decode 205 = .ok (.iload_n 2, 1) := dk_28 (dk_at dksX2_decode_8 19 rfl rfl)
theorem dX2_decode_206 : decode cX2_decode 206 = .ok (.invokevirtual 46, 3) := dk_182 0 46 (dk_at dksX2_decode_8 20 rfl rfl)
theorem dX2_decode_209 : decode cX2_decode 209 = .ok (.astore 9, 2) := dk_58 9 (dk_at dksX2_decode_9 0 rfl rfl)
theorem dX2_decode_211 : decode cX2_decode 211 = .ok (.aload 9, 2) := dk_25 9 (dk_at dksX2_decode_9 2 rfl rfl)
theorem dX2_decode_213 : decode cX2_decode 213 = .ok (.iconst 0, 1) := dk_3 (dk_at dksX2_decode_9 4 rfl rfl)
theorem dX2_decode_214 : decode cX2_decode 214 = .ok (.aaload, 1) := dk_50 (dk_at dksX2_decode_9 5 rfl rfl)
theorem dX2_decode_215 : decode cX2_decode 215 = .ok (.astore 10, 2) := dk_58 10 (dk_at dksX2_decode_9 6 rfl rfl)
theorem dX2_decode_217 : decode cX2_decode 217 = .ok (.aload 9, 2) := dk_25 9 (dk_at dksX2_decode_9 8 rfl rfl)
theorem dX2_decode_219 : decode cX2_decode 219 = .ok (.iconst 1, 1) := dk_4 (dk_at dksX2_decode_9 10 rfl rfl)
theorem dX2_decode_220 : decode cX2_decode 220 = .ok (.aaload, 1) := dk_50 (dk_at dksX2_decode_9 11 rfl rfl)
theorem dX2_decode_221 : decode cX2_decode 221 = .ok (.astore 11, 2) := dk_58 11 (dk_at dksX2_decode_9 12 rfl rfl)
theorem dX2_decode_223 : decode cX2_decode 223 = .ok (.aload_n 0, 1) := dk_42 (dk_at dksX2_decode_9 14 rfl rfl)
theorem dX2_decode_224 : decode cX2_decode 224 = .ok (.aload 10, 2) := dk_25 10 (dk_at dksX2_decode_9 15 rfl rfl)
theorem dX2_decode_226 : decode cX2_decode 226 = .ok (.invokevirtual 50, 3) := dk_182 0 50 (dk_at dksX2_decode_9 17 rfl rfl)
theorem dX2_decode_229 : decode cX2_decode 229 = .ok (.astore 12, 2) := dk_58 12 (dk_at dksX2_decode_9 20 rfl rfl)
theorem dX2_decode_231 : decode cX2_decode 231 = .ok (.aload_n 0, 1) := dk_42 (dk_at dksX2_decode_9 22 rfl rfl)
theorem dX2_decode_232 : decode cX2_decode 232 = .ok (.aload 11, 2) := dk_25 11 (dk_at dksX2_decode_10 0 rfl rfl)
theorem dX2_decode_234 : decode cX2_decode 234 = .ok (.aload 10, 2) := dk_25 10 (dk_at dksX2_decode_10 2 rfl rfl)
theorem dX2_decode_236 : decode cX2_decode 236 = .ok (.aload 12, 2) := dk_25 12 (dk_at dksX2_decode_10 4 rfl rfl)
theorem dX2_decode_238 : decode cX2_decode 238 = .ok (.invokevirtual 54, 3) := dk_182 0 54 (dk_at dksX2_decode_10 6 rfl rfl)
theorem dX2_decode_241 : decode cX2_decode 241 = .ok (.astore 13, 2) := dk_58 13 (dk_at dksX2_decode_10 9 rfl rfl)
theorem dX2_decode_243 : decode cX2_decode 243 = .ok (.iconst 0, 1) := dk_3 (dk_at dksX2_decode_10 11 rfl rfl)
theorem dX2_decode_244 : decode cX2_decode 244 = .ok (.istore 14, 2) := dk_54 14 (dk_at dksX2_decode_10 12 rfl rfl)
theorem dX2_decode_246 : decode cX2_decode 246 = .ok (.iload 14, 2) := dk_21 14 (dk_at dksX2_decode_10 14 rfl rfl)
theorem dX2_decode_248 : decode cX2_decode 248 = .ok (.aload 12, 2) := dk_25 12 (dk_at dksX2_decode_10 16 rfl rfl)
theorem dX2_decode_250 : decode cX2_decode 250 = .ok (.arraylength, 1) := dk_190 (dk_at dksX2_decode_10 18 rfl rfl)
theorem dX2_decode_251 : decode cX2_decode 251 = .ok (.if_icmp .ge 57, 3) := dk_162 0 57 (dk_at dksX2_decode_10 19 rfl rfl)
theorem dX2_decode_254 : decode cX2_decode 254 = .ok (.aload_n 1, 1) := dk_43 (dk_at dksX2_decode_10 22 rfl rfl)
theorem dX2_decode_255 : decode cX2_decode 255 = .ok (.arraylength, 1) := dk_190 (dk_at dksX2_decode_10 23 rfl rfl)
theorem dX2_decode_256 : decode cX2_decode 256 = .ok (.iconst 1, 1) := dk_4 (dk_at dksX2_decode_11 0 rfl rfl)
theorem dX2_decode_257 : decode cX2_decode 257 = .ok (.isub, 1) := dk_100 (dk_at dksX2_decode_11 1 rfl rfl)
theorem dX2_decode_258 : decode cX2_decode 258 = .ok (.aload_n 0, 1) := dk_42 (dk_at dksX2_decode_11 2 rfl rfl)
theorem dX2_decode_259 : decode cX2_decode 259 = .ok (.getfield 13, 3) := dk_180 0 13 (dk_at dksX2_decode_11 3 rfl rfl)
theorem dX2_decode_262 : decode cX2_decode 262 = .ok (.aload 12, 2) := dk_25 12 (dk_at dksX2_decode_11 6 rfl rfl)
theorem dX2_decode_264 : decode cX2_decode 264 = .ok (.iload 14, 2) := dk_21 14 (dk_at dksX2_decode_11 8 rfl rfl)
theorem dX2_decode_266 : decode cX2_decode 266 = .ok (.iaload, 1) := dk_46 (dk_at dksX2_decode_11 10 rfl rfl)
theorem dX2_decode_267 : decode cX2_decode 267 = .ok (.invokevirtual 58, 3) := dk_182 0 58 (dk_at dksX2_decode_11 11 rfl rfl)
theorem dX2_decode_270 : decode cX2_decode 270 = .ok (.isub, 1) := dk_100 (dk_at dksX2_decode_11 14 rfl rfl)
theorem dX2_decode_271 : decode cX2_decode 271 = .ok (.istore 15, 2) := dk_54 15 (dk_at dksX2_decode_11 15 rfl rfl)
theorem dX2_decode_273 : decode cX2_decode 273 = .ok (.iload 15, 2) := dk_21 15 (dk_at dksX2_decode_11 17 rfl rfl)
theorem dX2_decode_275 : decode cX2_decode 275 = .ok (.ifCond .ge 7, 3) := dk_156 0 7 (dk_at dksX2_decode_11 19 rfl rfl)
theorem dX2_decode_278 : decode cX2_decode 278 = .ok (.invokestatic 61, 3) := dk_184 0 61 (dk_at dksX2_decode_12 0 rfl rfl)
theorem dX2_decode_281 : decode cX2_decode 281 = .ok (.athrow, 1) := dk_191 (dk_at dksX2_decode_12 3 rfl rfl)
theorem dX2_decode_282 : decode cX2_decode 282 = .ok (.aload_n 1, 1) := dk_43 (dk_at dksX2_decode_12 4 rfl rfl)
theorem dX2_decode_283 : decode cX2_decode 283 = .ok (.iload 15, 2) := dk_21 15 (dk_at dksX2_decode_12 5 rfl rfl)
theorem dX2_decode_285 : decode cX2_decode 285 = .ok (.aload_n 0, 1) := dk_42 (dk_at dksX2_decode_12 7 rfl rfl)
theorem dX2_decode_286 : decode cX2_decode 286 = .ok (.getfield 13, 3) := dk_180 0 13 (dk_at dksX2_decode_12 8 rfl rfl)
theorem dX2_decode_289 : decode cX2_decode 289 = .ok (.aload_n 1, 1) := dk_43 (dk_at dksX2_decode_12 11 rfl rfl)
theorem dX2_decode_290 : decode cX2_decode 290 = .ok (.iload 15, 2) := dk_21 15 (dk_at dksX2_decode_12 12 rfl rfl)
theorem dX2_decode_292 : decode cX2_decode 292 = .ok (.iaload, 1) := dk_46 (dk_at dksX2_decode_12 14 rfl rfl)
theorem dX2_decode_293 : decode cX2_decode 293 = .ok (.aload 13, 2) := dk_25 13 (dk_at dksX2_decode_12 15 rfl rfl)
theorem dX2_decode_295 : decode cX2_decode 295 = .ok (.iload 14, 2) := dk_21 14 (dk_at dksX2_decode_12 17 rfl rfl)
theorem dX2_decode_297 : decode cX2_decode 297 = .ok (.iaload, 1) := dk_46 (dk_at dksX2_decode_12 19 rfl rfl)
theorem dX2_decode_298 : decode cX2_decode 298 = .ok (.invokevirtual 34, 3) := dk_182 0 34 (dk_at dksX2_decode_12 20 rfl rfl)
theorem dX2_decode_301 : decode cX2_decode 301 = .ok (.iastore, 1) := dk_79 (dk_at dksX2_decode_12 23 rfl rfl)
theorem dX2_decode_302 : decode cX2_decode 302 = .ok (.iinc 14 1, 3) := dk_132 14 1 (dk_at dksX2_decode_13 0 rfl rfl)
theorem dX2_decode_305 : decode cX2_decode 305 = .ok (.goto (-59), 3) := dk_167 255 197 (dk_at dksX2_decode_13 3 rfl rfl)
theorem dX2_decode_308 : decode cX2_decode 308 = .ok (.aload 12, 2) := dk_25 12 (dk_at dksX2_decode_13 6 rfl rfl)
theorem dX2_decode_310 : decode cX2_decode 310 = .ok (.arraylength, 1) := dk_190 (dk_at dksX2_decode_13 8 rfl rfl)
theorem dX2_decode_311 : decode cX2_decode 311 = .ok (.ireturn, 1) := dk_172 (dk_at dksX2_decode_13 9 rfl rfl)
abbrev cX2_runEuclideanAlgorithm : ByteArray := prog_2_method_3_code
def yX2_runEuclideanAlgorithm : MethodName := ⟨RX2, "runEuclideanAlgorithm", "(LModulusPoly;LModulusPoly;I)[LModulusPoly;"⟩
def dkwX2_runEuclideanAlgorithm_12 : List UInt8 := [189, 0, 18, 89, 3, 25, 10, 83, 89, 4, 25, 11, 83, 176]
abbrev dktX2_runEuclideanAlgorithm_12 : List UInt8 := dkwX2_runEuclideanAlgorithm_12 ++ []
def dkwX2_runEuclideanAlgorithm_11 : List UInt8 := [182, 0, 81, 54, 9, 25, 7, 21, 9, 182, 0, 97, 58, 10, 25, 5, 21, 9, 182, 0, 97, 58, 11, 5]
abbrev dktX2_runEuclideanAlgorithm_11 : List UInt8 := dkwX2_runEuclideanAlgorithm_11 ++ dktX2_runEuclideanAlgorithm_12
def dkwX2_runEuclideanAlgorithm_10 : List UInt8 := [25, 7, 3, 182, 0, 78, 54, 8, 21, 8, 154, 0, 7, 184, 0, 61, 191, 42, 180, 0, 13, 21, 8]
abbrev dktX2_runEuclideanAlgorithm_10 : List UInt8 := dkwX2_runEuclideanAlgorithm_10 ++ dktX2_runEuclideanAlgorithm_11
def dkwX2_runEuclideanAlgorithm_9 : List UInt8 := [167, 255, 167, 25, 10, 25, 6, 182, 0, 38, 25, 9, 182, 0, 92, 182, 0, 94, 58, 7, 167, 255, 72]
abbrev dktX2_runEuclideanAlgorithm_9 : List UInt8 := dkwX2_runEuclideanAlgorithm_9 ++ dktX2_runEuclideanAlgorithm_10
def dkwX2_runEuclideanAlgorithm_8 : List UInt8 := [182, 0, 42, 182, 0, 86, 58, 10, 25, 5, 25, 4, 21, 13, 21, 14, 182, 0, 89, 182, 0, 92, 58, 5]
abbrev dktX2_runEuclideanAlgorithm_8 : List UInt8 := dkwX2_runEuclideanAlgorithm_8 ++ dktX2_runEuclideanAlgorithm_9
def dkwX2_runEuclideanAlgorithm_7 : List UInt8 := [182, 0, 67, 182, 0, 78, 21, 12, 182, 0, 84, 54, 14, 25, 10, 42, 180, 0, 13, 21, 13, 21, 14]
abbrev dktX2_runEuclideanAlgorithm_7 : List UInt8 := dkwX2_runEuclideanAlgorithm_7 ++ dktX2_runEuclideanAlgorithm_8
def dkwX2_runEuclideanAlgorithm_6 : List UInt8 := [154, 0, 74, 25, 5, 182, 0, 67, 25, 4, 182, 0, 67, 100, 54, 13, 42, 180, 0, 13, 25, 5, 25, 5]
abbrev dktX2_runEuclideanAlgorithm_6 : List UInt8 := dkwX2_runEuclideanAlgorithm_6 ++ dktX2_runEuclideanAlgorithm_7
def dkwX2_runEuclideanAlgorithm_5 : List UInt8 := [182, 0, 81, 54, 12, 25, 5, 182, 0, 67, 25, 4, 182, 0, 67, 161, 0, 82, 25, 5, 182, 0, 74]
abbrev dktX2_runEuclideanAlgorithm_5 : List UInt8 := dkwX2_runEuclideanAlgorithm_5 ++ dktX2_runEuclideanAlgorithm_6
def dkwX2_runEuclideanAlgorithm_4 : List UInt8 := [182, 0, 71, 58, 10, 25, 4, 25, 4, 182, 0, 67, 182, 0, 78, 54, 11, 42, 180, 0, 13, 21, 11]
abbrev dktX2_runEuclideanAlgorithm_4 : List UInt8 := dkwX2_runEuclideanAlgorithm_4 ++ dktX2_runEuclideanAlgorithm_5
def dkwX2_runEuclideanAlgorithm_3 : List UInt8 := [58, 6, 25, 4, 182, 0, 74, 153, 0, 7, 184, 0, 61, 191, 25, 8, 58, 5, 42, 180, 0, 13]
abbrev dktX2_runEuclideanAlgorithm_3 : List UInt8 := dkwX2_runEuclideanAlgorithm_3 ++ dktX2_runEuclideanAlgorithm_4
def dkwX2_runEuclideanAlgorithm_2 : List UInt8 := [182, 0, 67, 29, 5, 108, 161, 0, 179, 25, 4, 58, 8, 25, 6, 58, 9, 25, 5, 58, 4, 25, 7]
abbrev dktX2_runEuclideanAlgorithm_2 : List UInt8 := dkwX2_runEuclideanAlgorithm_2 ++ dktX2_runEuclideanAlgorithm_3
def dkwX2_runEuclideanAlgorithm_1 : List UInt8 := [58, 5, 42, 180, 0, 13, 182, 0, 71, 58, 6, 42, 180, 0, 13, 182, 0, 30, 58, 7, 25, 5]
abbrev dktX2_runEuclideanAlgorithm_1 : List UInt8 := dkwX2_runEuclideanAlgorithm_1 ++ dktX2_runEuclideanAlgorithm_2
def dkwX2_runEuclideanAlgorithm_0 : List UInt8 := [43, 182, 0, 67, 44, 182, 0, 67, 162, 0, 11, 43, 58, 4, 44, 76, 25, 4, 77, 43, 58, 4, 44]
abbrev dktX2_runEuclideanAlgorithm_0 : List UInt8 := dkwX2_runEuclideanAlgorithm_0 ++ dktX2_runEuclideanAlgorithm_1
theorem dksX2_runEuclideanAlgorithm_0 : cX2_runEuclideanAlgorithm.data.toList.drop 0 = dktX2_runEuclideanAlgorithm_0 := by decide +kernel
theorem dksX2_runEuclideanAlgorithm_1 : cX2_runEuclideanAlgorithm.data.toList.drop 23 = dktX2_runEuclideanAlgorithm_1 := dk_seg dksX2_runEuclideanAlgorithm_0 23 rfl rfl
theorem dksX2_runEuclideanAlgorithm_2 : cX2_runEuclideanAlgorithm.data.toList.drop 45 = dktX2_runEuclideanAlgorithm_2 := dk_seg dksX2_runEuclideanAlgorithm_1 22 rfl rfl
theorem dksX2_runEuclideanAlgorithm_3 : cX2_runEuclideanAlgorithm.data.toList.drop 68 = dktX2_runEuclideanAlgorithm_3 := dk_seg dksX2_runEuclideanAlgorithm_2 23 rfl rfl
theorem dksX2_runEuclideanAlgorithm_4 : cX2_runEuclideanAlgorithm.data.toList.drop 90 = dktX2_runEuclideanAlgorithm_4 := dk_seg dksX2_runEuclideanAlgorithm_3 22 rfl rfl
theorem dksX2_runEuclideanAlgorithm_5 : cX2_runEuclideanAlgorithm.data.toList.drop 113 = dktX2_runEuclideanAlgorithm_5 := dk_seg dksX2_runEuclideanAlgorithm_4 23 rfl rfl
theorem dksX2_runEuclideanAlgorithm_6 : cX2_runEuclideanAlgorithm.data.toList.drop 136 = dktX2_runEuclideanAlgorithm_6 := dk_seg dksX2_runEuclideanAlgorithm_5 23 rfl rfl
theorem dksX2_runEuclideanAlgorithm_7 : cX2_runEuclideanAlgorithm.data.toList.drop 160 = dktX2_runEuclideanAlgorithm_7 := dk_seg dksX2_runEuclideanAlgorithm_6 24 rfl rfl
theorem dksX2_runEuclideanAlgorithm_8 : cX2_runEuclideanAlgorithm.data.toList.drop 183 = dktX2_runEuclideanAlgorithm_8 := dk_seg dksX2_runEuclideanAlgorithm_7 23 rfl rfl
theorem dksX2_runEuclideanAlgorithm_9 : cX2_runEuclideanAlgorithm.data.toList.drop 207 = dktX2_runEuclideanAlgorithm_9 := dk_seg dksX2_runEuclideanAlgorithm_8 24 rfl rfl
theorem dksX2_runEuclideanAlgorithm_10 : cX2_runEuclideanAlgorithm.data.toList.drop 230 = dktX2_runEuclideanAlgorithm_10 := dk_seg dksX2_runEuclideanAlgorithm_9 23 rfl rfl
theorem dksX2_runEuclideanAlgorithm_11 : cX2_runEuclideanAlgorithm.data.toList.drop 253 = dktX2_runEuclideanAlgorithm_11 := dk_seg dksX2_runEuclideanAlgorithm_10 23 rfl rfl
theorem dksX2_runEuclideanAlgorithm_12 : cX2_runEuclideanAlgorithm.data.toList.drop 277 = dktX2_runEuclideanAlgorithm_12 := dk_seg dksX2_runEuclideanAlgorithm_11 24 rfl rfl
theorem dX2_runEuclideanAlgorithm_0 : decode cX2_runEuclideanAlgorithm 0 = .ok (.aload_n 1, 1) := dk_43 (dk_at dksX2_runEuclideanAlgorithm_0 0 rfl rfl)
theorem dX2_runEuclideanAlgorithm_1 : decode cX2_runEuclideanAlgorithm 1 = .ok (.invokevirtual 67, 3) := dk_182 0 67 (dk_at dksX2_runEuclideanAlgorithm_0 1 rfl rfl)
theorem dX2_runEuclideanAlgorithm_4 : decode cX2_runEuclideanAlgorithm 4 = .ok (.aload_n 2, 1) := dk_44 (dk_at dksX2_runEuclideanAlgorithm_0 4 rfl rfl)
theorem dX2_runEuclideanAlgorithm_5 : decode cX2_runEuclideanAlgorithm 5 = .ok (.invokevirtual 67, 3) := dk_182 0 67 (dk_at dksX2_runEuclideanAlgorithm_0 5 rfl rfl)
theorem dX2_runEuclideanAlgorithm_8 : decode cX2_runEuclideanAlgorithm 8 = .ok (.if_icmp .ge 11, 3) := dk_162 0 11 (dk_at dksX2_runEuclideanAlgorithm_0 8 rfl rfl)
theorem dX2_runEuclideanAlgorithm_11 : decode cX2_runEuclideanAlgorithm 11 = .ok (.aload_n 1, 1) := dk_43 (dk_at dksX2_runEuclideanAlgorithm_0 11 rfl rfl)
theorem dX2_runEuclideanAlgorithm_12 : decode cX2_runEuclideanAlgorithm 12 = .ok (.astore 4, 2) := dk_58 4 (dk_at dksX2_runEuclideanAlgorithm_0 12 rfl rfl)
theorem dX2_runEuclideanAlgorithm_14 : decode cX2_runEuclideanAlgorithm 14 = .ok (.aload_n 2, 1) := dk_44 (dk_at dksX2_runEuclideanAlgorithm_0 14 rfl rfl)
theorem dX2_runEuclideanAlgorithm_15 : decode cX2_runEuclideanAlgorithm 15 = .ok (.astore_n 1, 1) := dk_76 (dk_at dksX2_runEuclideanAlgorithm_0 15 rfl rfl)
theorem dX2_runEuclideanAlgorithm_16 : decode cX2_runEuclideanAlgorithm 16 = .ok (.aload 4, 2) := dk_25 4 (dk_at dksX2_runEuclideanAlgorithm_0 16 rfl rfl)
theorem dX2_runEuclideanAlgorithm_18 : decode cX2_runEuclideanAlgorithm 18 = .ok (.astore_n 2, 1) := dk_77 (dk_at dksX2_runEuclideanAlgorithm_0 18 rfl rfl)
theorem dX2_runEuclideanAlgorithm_19 : decode cX2_runEuclideanAlgorithm 19 = .ok (.aload_n 1, 1) := dk_43 (dk_at dksX2_runEuclideanAlgorithm_0 19 rfl rfl)
theorem dX2_runEuclideanAlgorithm_20 : decode cX2_runEuclideanAlgorithm 20 = .ok (.astore 4, 2) := dk_58 4 (dk_at dksX2_runEuclideanAlgorithm_0 20 rfl rfl)
theorem dX2_runEuclideanAlgorithm_22 : decode cX2_runEuclideanAlgorithm 22 = .ok (.aload_n 2, 1) := dk_44 (dk_at dksX2_runEuclideanAlgorithm_0 22 rfl rfl)
theorem dX2_runEuclideanAlgorithm_23 : decode cX2_runEuclideanAlgorithm 23 = .ok (.astore 5, 2) := dk_58 5 (dk_at dksX2_runEuclideanAlgorithm_1 0 rfl rfl)
theorem dX2_runEuclideanAlgorithm_25 : decode cX2_runEuclideanAlgorithm 25 = .ok (.aload_n 0, 1) := dk_42 (dk_at dksX2_runEuclideanAlgorithm_1 2 rfl rfl)
theorem dX2_runEuclideanAlgorithm_26 : decode cX2_runEuclideanAlgorithm 26 = .ok (.getfield 13, 3) := dk_180 0 13 (dk_at dksX2_runEuclideanAlgorithm_1 3 rfl rfl)
theorem dX2_runEuclideanAlgorithm_29 : decode cX2_runEuclideanAlgorithm 29 = .ok (.invokevirtual 71, 3) := dk_182 0 71 (dk_at dksX2_runEuclideanAlgorithm_1 6 rfl rfl)
theorem dX2_runEuclideanAlgorithm_32 : decode cX2_runEuclideanAlgorithm 32 = .ok (.astore 6, 2) := dk_58 6 (dk_at dksX2_runEuclideanAlgorithm_1 9 rfl rfl)
theorem dX2_runEuclideanAlgorithm_34 : decode cX2_runEuclideanAlgorithm 34 = .ok (.aload_n 0, 1) := dk_42 (dk_at dksX2_runEuclideanAlgorithm_1 11 rfl rfl)
theorem dX2_runEuclideanAlgorithm_35 : decode cX2_runEuclideanAlgorithm 35 = .ok (.getfield 13, 3) := dk_180 0 13 (dk_at dksX2_runEuclideanAlgorithm_1 12 rfl rfl)
theorem dX2_runEuclideanAlgorithm_38 : decode cX2_runEuclideanAlgorithm 38 = .ok (.invokevirtual 30, 3) := dk_182 0 30 (dk_at dksX2_runEuclideanAlgorithm_1 15 rfl rfl)
theorem dX2_runEuclideanAlgorithm_41 : decode cX2_runEuclideanAlgorithm 41 = .ok (.astore 7, 2) := dk_58 7 (dk_at dksX2_runEuclideanAlgorithm_1 18 rfl rfl)
theorem dX2_runEuclideanAlgorithm_43 : decode cX2_runEuclideanAlgorithm 43 = .ok (.aload 5, 2) := dk_25 5 (dk_at dksX2_runEuclideanAlgorithm_1 20 rfl rfl)
theorem dX2_runEuclideanAlgorithm_45 : decode cX2_runEuclideanAlgorithm 45 = .ok (.invokevirtual 67, 3) := dk_182 0 67 (dk_at dksX2_runEuclideanAlgorithm_2 0 rfl rfl)
theorem dX2_runEuclideanAlgorithm_48 : decode cX2_runEuclideanAlgorithm 48 = .ok (.iload_n 3, 1) := dk_29 (dk_at dksX2_runEuclideanAlgorithm_2 3 rfl rfl)
theorem dX2_runEuclideanAlgorithm_49 : decode cX2_runEuclideanAlgorithm 49 = .ok (.iconst 2, 1) := dk_5 (dk_at dksX2_runEuclideanAlgorithm_2 4 rfl rfl)
theorem dX2_runEuclideanAlgorithm_50 : decode cX2_runEuclideanAlgorithm 50 = .ok (.idiv, 1) := dk_108 (dk_at dksX2_runEuclideanAlgorithm_2 5 rfl rfl)
theorem dX2_runEuclideanAlgorithm_51 : decode cX2_runEuclideanAlgorithm 51 = .ok (.if_icmp .lt 179, 3) := dk_161 0 179 (dk_at dksX2_runEuclideanAlgorithm_2 6 rfl rfl)
theorem dX2_runEuclideanAlgorithm_54 : decode cX2_runEuclideanAlgorithm 54 = .ok (.aload 4, 2) := dk_25 4 (dk_at dksX2_runEuclideanAlgorithm_2 9 rfl rfl)
theorem dX2_runEuclideanAlgorithm_56 : decode cX2_runEuclideanAlgorithm 56 = .ok (.astore 8, 2) := dk_58 8 (dk_at dksX2_runEuclideanAlgorithm_2 11 rfl rfl)
theorem dX2_runEuclideanAlgorithm_58 : decode cX2_runEuclideanAlgorithm 58 = .ok (.aload 6, 2) := dk_25 6 (dk_at dksX2_runEuclideanAlgorithm_2 13 rfl rfl)
theorem dX2_runEuclideanAlgorithm_60 : decode cX2_runEuclideanAlgorithm 60 = .ok (.astore 9, 2) := dk_58 9 (dk_at dksX2_runEuclideanAlgorithm_2 15 rfl rfl)
theorem dX2_runEuclideanAlgorithm_62 : decode cX2_runEuclideanAlgorithm 62 = .ok (.aload 5, 2) := dk_25 5 (dk_at dksX2_runEuclideanAlgorithm_2 17 rfl rfl)
theorem dX2_runEuclideanAlgorithm_64 : decode cX2_runEuclideanAlgorithm 64 = .ok (.astore 4, 2) := dk_58 4 (dk_at dksX2_runEuclideanAlgorithm_2 19 rfl rfl)
theorem dX2_runEuclideanAlgorithm_66 : decode cX2_runEuclideanAlgorithm 66 = .ok (.aload 7, 2) := dk_25 7 (dk_at dksX2_runEuclideanAlgorithm_2 21 rfl rfl)
theorem dX2_runEuclideanAlgorithm_68 : decode cX2_runEuclideanAlgorithm 68 = .ok (.astore 6, 2) := dk_58 6 (dk_at dksX2_runEuclideanAlgorithm_3 0 rfl rfl)
theorem dX2_runEuclideanAlgorithm_70 : decode cX2_runEuclideanAlgorithm 70 = .ok (.aload 4, 2) := dk_25 4 (dk_at dksX2_runEuclideanAlgorithm_3 2 rfl rfl)
theorem dX2_runEuclideanAlgorithm_72 : decode cX2_runEuclideanAlgorithm 72 = .ok (.invokevirtual 74, 3) := dk_182 0 74 (dk_at dksX2_runEuclideanAlgorithm_3 4 rfl rfl)
theorem dX2_runEuclideanAlgorithm_75 : decode cX2_runEuclideanAlgorithm 75 = .ok (.ifCond .eq 7, 3) := dk_153 0 7 (dk_at dksX2_runEuclideanAlgorithm_3 7 rfl rfl)
theorem dX2_runEuclideanAlgorithm_78 : decode cX2_runEuclideanAlgorithm 78 = .ok (.invokestatic 61, 3) := dk_184 0 61 (dk_at dksX2_runEuclideanAlgorithm_3 10 rfl rfl)
theorem dX2_runEuclideanAlgorithm_81 : decode cX2_runEuclideanAlgorithm 81 = .ok (.athrow, 1) := dk_191 (dk_at dksX2_runEuclideanAlgorithm_3 13 rfl rfl)
theorem dX2_runEuclideanAlgorithm_82 : decode cX2_runEuclideanAlgorithm 82 = .ok (.aload 8, 2) := dk_25 8 (dk_at dksX2_runEuclideanAlgorithm_3 14 rfl rfl)
theorem dX2_runEuclideanAlgorithm_84 : decode cX2_runEuclideanAlgorithm 84 = .ok (.astore 5, 2) := dk_58 5 (dk_at dksX2_runEuclideanAlgorithm_3 16 rfl rfl)
theorem dX2_runEuclideanAlgorithm_86 : decode cX2_runEuclideanAlgorithm 86 = .ok (.aload_n 0, 1) := dk_42 (dk_at dksX2_runEuclideanAlgorithm_3 18 rfl rfl)
theorem dX2_runEuclideanAlgorithm_87 : decode cX2_runEuclideanAlgorithm 87 = .ok (.getfield 13, 3) := dk_180 0 13 (dk_at dksX2_runEuclideanAlgorithm_3 19 rfl rfl)
theorem dX2_runEuclideanAlgorithm_90 : decode cX2_runEuclideanAlgorithm 90 = .ok (.invokevirtual 71, 3) := dk_182 0 71 (dk_at dksX2_runEuclideanAlgorithm_4 0 rfl rfl)
theorem dX2_runEuclideanAlgorithm_93 : decode cX2_runEuclideanAlgorithm 93 = .ok (.astore 10, 2) := dk_58 10 (dk_at dksX2_runEuclideanAlgorithm_4 3 rfl rfl)
theorem dX2_runEuclideanAlgorithm_95 : decode cX2_runEuclideanAlgorithm 95 = .ok (.aload 4, 2) := dk_25 4 (dk_at dksX2_runEuclideanAlgorithm_4 5 rfl rfl)
theorem dX2_runEuclideanAlgorithm_97 : decode cX2_runEuclideanAlgorithm 97 = .ok (.aload 4, 2) := dk_25 4 (dk_at dksX2_runEuclideanAlgorithm_4 7 rfl rfl)
theorem dX2_runEuclideanAlgorithm_99 : decode cX2_runEuclideanAlgorithm 99 = .ok (.invokevirtual 67, 3) := dk_182 0 67 (dk_at dksX2_runEuclideanAlgorithm_4 9 rfl rfl)
theorem dX2_runEuclideanAlgorithm_102 : decode cX2_runEuclideanAlgorithm 102 = .ok (.invokevirtual 78, 3) := dk_182 0 78 (dk_at dksX2_runEuclideanAlgorithm_4 12 rfl rfl)
theorem dX2_runEuclideanAlgorithm_105 : decode cX2_runEuclideanAlgorithm 105 = .ok (.istore 11, 2) := dk_54 11 (dk_at dksX2_runEuclideanAlgorithm_4 15 rfl rfl)
theorem dX2_runEuclideanAlgorithm_107 : decode cX2_runEuclideanAlgorithm 107 = .ok (.aload_n 0, 1) := dk_42 (dk_at dksX2_runEuclideanAlgorithm_4 17 rfl rfl)
theorem dX2_runEuclideanAlgorithm_108 : decode cX2_runEuclideanAlgorithm 108 = .ok (.getfield 13, 3) := dk_180 0 13 (dk_at dksX2_runEuclideanAlgorithm_4 18 rfl rfl)
theorem dX2_runEuclideanAlgorithm_111 : decode cX2_runEuclideanAlgorithm 111 = .ok (.iload 11, 2) := dk_21 11 (dk_at dksX2_runEuclideanAlgorithm_4 21 rfl rfl)
theorem dX2_runEuclideanAlgorithm_113 : decode cX2_runEuclideanAlgorithm 113 = .ok (.invokevirtual 81, 3) := dk_182 0 81 (dk_at dksX2_runEuclideanAlgorithm_5 0 rfl rfl)
theorem dX2_runEuclideanAlgorithm_116 : decode cX2_runEuclideanAlgorithm 116 = .ok (.istore 12, 2) := dk_54 12 (dk_at dksX2_runEuclideanAlgorithm_5 3 rfl rfl)
theorem dX2_runEuclideanAlgorithm_118 : decode cX2_runEuclideanAlgorithm 118 = .ok (.aload 5, 2) := dk_25 5 (dk_at dksX2_runEuclideanAlgorithm_5 5 rfl rfl)
theorem dX2_runEuclideanAlgorithm_120 : decode cX2_runEuclideanAlgorithm 120 = .ok (.invokevirtual 67, 3) := dk_182 0 67 (dk_at dksX2_runEuclideanAlgorithm_5 7 rfl rfl)
theorem dX2_runEuclideanAlgorithm_123 : decode cX2_runEuclideanAlgorithm 123 = .ok (.aload 4, 2) := dk_25 4 (dk_at dksX2_runEuclideanAlgorithm_5 10 rfl rfl)
theorem dX2_runEuclideanAlgorithm_125 : decode cX2_runEuclideanAlgorithm 125 = .ok (.invokevirtual 67, 3) := dk_182 0 67 (dk_at dksX2_runEuclideanAlgorithm_5 12 rfl rfl)
theorem dX2_runEuclideanAlgorithm_128 : decode cX2_runEuclideanAlgorithm 128 = .ok (.if_icmp .lt 82, 3) := dk_161 0 82 (dk_at dksX2_runEuclideanAlgorithm_5 15 rfl rfl)
theorem dX2_runEuclideanAlgorithm_131 : decode cX2_runEuclideanAlgorithm 131 = .ok (.aload 5, 2) := dk_25 5 (dk_at dksX2_runEuclideanAlgorithm_5 18 rfl rfl)
theorem dX2_runEuclideanAlgorithm_133 : decode cX2_runEuclideanAlgorithm 133 = .ok (.invokevirtual 74, 3) := dk_182 0 74 (dk_at dksX2_runEuclideanAlgorithm_5 20 rfl rfl)
theorem dX2_runEuclideanAlgorithm_136 : decode cX2_runEuclideanAlgorithm 136 = .ok (.ifCond .ne 74, 3) := dk_154 0 74 (dk_at dksX2_runEuclideanAlgorithm_6 0 rfl rfl)
theorem dX2_runEuclideanAlgorithm_139 : decode cX2_runEuclideanAlgorithm 139 = .ok (.aload 5, 2) := dk_25 5 (dk_at dksX2_runEuclideanAlgorithm_6 3 rfl rfl)
theorem dX2_runEuclideanAlgorithm_141 : decode cX2_runEuclideanAlgorithm 141 = .ok (.invokevirtual 67, 3) := dk_182 0 67 (dk_at dksX2_runEuclideanAlgorithm_6 5 rfl rfl)
theorem dX2_runEuclideanAlgorithm_144 : decode cX2_runEuclideanAlgorithm 144 = .ok (.aload 4, 2) := dk_25 4 (dk_at dksX2_runEuclideanAlgorithm_6 8 rfl rfl)
theorem dX2_runEuclideanAlgorithm_146 : decode cX2_runEuclideanAlgorithm 146 = .ok (.invokevirtual 67, 3) := dk_182 0 67 (dk_at dksX2_runEuclideanAlgorithm_6 10 rfl rfl)
theorem dX2_runEuclideanAlgorithm_149 : decode cX2_runEuclideanAlgorithm 149 = .ok (.isub, 1) := dk_100 (dk_at dksX2_runEuclideanAlgorithm_6 13 rfl rfl)
theorem dX2_runEuclideanAlgorithm_150 : decode cX2_runEuclideanAlgorithm 150 = .ok (.istore 13, 2) := dk_54 13 (dk_at dksX2_runEuclideanAlgorithm_6 14 rfl rfl)
theorem dX2_runEuclideanAlgorithm_152 : decode cX2_runEuclideanAlgorithm 152 = .ok (.aload_n 0, 1) := dk_42 (dk_at dksX2_runEuclideanAlgorithm_6 16 rfl rfl)
theorem dX2_runEuclideanAlgorithm_153 : decode cX2_runEuclideanAlgorithm 153 = .ok (.getfield 13, 3) := dk_180 0 13 (dk_at dksX2_runEuclideanAlgorithm_6 17 rfl rfl)
theorem dX2_runEuclideanAlgorithm_156 : decode cX2_runEuclideanAlgorithm 156 = .ok (.aload 5, 2) := dk_25 5 (dk_at dksX2_runEuclideanAlgorithm_6 20 rfl rfl)
theorem dX2_runEuclideanAlgorithm_158 : decode cX2_runEuclideanAlgorithm 158 = .ok (.aload 5, 2) := dk_25 5 (dk_at dksX2_runEuclideanAlgorithm_6 22 rfl rfl)
theorem dX2_runEuclideanAlgorithm_160 : decode cX2_runEuclideanAlgorithm 160 = .ok (.invokevirtual 67, 3) := dk_182 0 67 (dk_at dksX2_runEuclideanAlgorithm_7 0 rfl rfl)
theorem dX2_runEuclideanAlgorithm_163 : decode cX2_runEuclideanAlgorithm 163 = .ok (.invokevirtual 78, 3) := dk_182 0 78 (dk_at dksX2_runEuclideanAlgorithm_7 3 rfl rfl)
theorem dX2_runEuclideanAlgorithm_166 : decode cX2_runEuclideanAlgorithm 166 = .ok (.iload 12, 2) := dk_21 12 (dk_at dksX2_runEuclideanAlgorithm_7 6 rfl rfl)
theorem dX2_runEuclideanAlgorithm_168 : decode cX2_runEuclideanAlgorithm 168 = .ok (.invokevirtual 84, 3) := dk_182 0 84 (dk_at dksX2_runEuclideanAlgorithm_7 8 rfl rfl)
theorem dX2_runEuclideanAlgorithm_171 : decode cX2_runEuclideanAlgorithm 171 = .ok (.istore 14, 2) := dk_54 14 (dk_at dksX2_runEuclideanAlgorithm_7 11 rfl rfl)
theorem dX2_runEuclideanAlgorithm_173 : decode cX2_runEuclideanAlgorithm 173 = .ok (.aload 10, 2) := dk_25 10 (dk_at dksX2_runEuclideanAlgorithm_7 13 rfl rfl)
theorem dX2_runEuclideanAlgorithm_175 : decode cX2_runEuclideanAlgorithm 175 = .ok (.aload_n 0, 1) := dk_42 (dk_at dksX2_runEuclideanAlgorithm_7 15 rfl rfl)
theorem dX2_runEuclideanAlgorithm_176 : decode cX2_runEuclideanAlgorithm 176 = .ok (.getfield 13, 3) := dk_180 0 13 (dk_at dksX2_runEuclideanAlgorithm_7 16 rfl rfl)
theorem dX2_runEuclideanAlgorithm_179 : decode cX2_runEuclideanAlgorithm 179 = .ok (.iload 13, 2) := dk_21 13 (dk_at dksX2_runEuclideanAlgorithm_7 19 rfl rfl)
theorem dX2_runEuclideanAlgorithm_181 : decode cX2_runEuclideanAlgorithm 181 = .ok (.iload 14, 2) := dk_21 14 (dk_at dksX2_runEuclideanAlgorithm_7 21 rfl rfl)
theorem dX2_runEuclideanAlgorithm_183 : decode cX2_runEuclideanAlgorithm 183 = .ok (.invokevirtual 42, 3) := dk_182 0 42 (dk_at dksX2_runEuclideanAlgorithm_8 0 rfl rfl)
theorem dX2_runEuclideanAlgorithm_186 : decode cX2_runEuclideanAlgorithm 186 = .ok (.invokevirtual 86, 3) := dk_182 0 86 (dk_at dksX2_runEuclideanAlgorithm_8 3 rfl rfl)
theorem dX2_runEuclideanAlgorithm_189 : decode cX2_runEuclideanAlgorithm 189 = .ok (.astore 10, 2) := dk_58 10 (dk_at dksX2_runEuclideanAlgorithm_8 6 rfl rfl)
theorem dX2_runEuclideanAlgorithm_191 : decode cX2_runEuclideanAlgorithm 191 = .ok (.aload 5, 2) := dk_25 5 (dk_at dksX2_runEuclideanAlgorithm_8 8 rfl rfl)
theorem dX2_runEuclideanAlgorithm_193 : decode cX2_runEuclideanAlgorithm 193 = .ok (.aload 4, 2) := dk_25 4 (dk_at dksX2_runEuclideanAlgorithm_8 10 rfl rfl)
theorem dX2_runEuclideanAlgorithm_195 : decode cX2_runEuclideanAlgorithm 195 = .ok (.iload 13, 2) := dk_21 13 (dk_at dksX2_runEuclideanAlgorithm_8 12 rfl rfl)
theorem dX2_runEuclideanAlgorithm_197 : decode cX2_runEuclideanAlgorithm 197 = .ok (.iload 14, 2) := dk_21 14 (dk_at dksX2_runEuclideanAlgorithm_8 14 rfl rfl)
theorem dX2_runEuclideanAlgorithm_199 : decode cX2_runEuclideanAlgorithm 199 = .ok (.invokevirtual 89, 3) := dk_182 0 89 (dk_at dksX2_runEuclideanAlgorithm_8 16 rfl rfl)
theorem dX2_runEuclideanAlgorithm_202 : decode cX2_runEuclideanAlgorithm 202 = .ok (.invokevirtual 92, 3) := dk_182 0 92 (dk_at dksX2_runEuclideanAlgorithm_8 19 rfl rfl)
theorem dX2_runEuclideanAlgorithm_205 : decode cX2_runEuclideanAlgorithm 205 = .ok (.astore 5, 2) := dk_58 5 (dk_at dksX2_runEuclideanAlgorithm_8 22 rfl rfl)
theorem dX2_runEuclideanAlgorithm_207 : decode cX2_runEuclideanAlgorithm 207 = .ok (.goto (-89), 3) := dk_167 255 167 (dk_at dksX2_runEuclideanAlgorithm_9 0 rfl rfl)
theorem dX2_runEuclideanAlgorithm_210 : decode cX2_runEuclideanAlgorithm 210 = .ok (.aload 10, 2) := dk_25 10 (dk_at dksX2_runEuclideanAlgorithm_9 3 rfl rfl)
theorem dX2_runEuclideanAlgorithm_212 : decode cX2_runEuclideanAlgorithm 212 = .ok (.aload 6, 2) := dk_25 6 (dk_at dksX2_runEuclideanAlgorithm_9 5 rfl rfl)
theorem dX2_runEuclideanAlgorithm_214 : decode cX2_runEuclideanAlgorithm 214 = .ok (.invokevirtual 38, 3) := dk_182 0 38 (dk_at dksX2_runEuclideanAlgorithm_9 7 rfl rfl)
theorem dX2_runEuclideanAlgorithm_217 : decode cX2_runEuclideanAlgorithm 217 = .ok (.aload 9, 2) := dk_25 9 (dk_at dksX2_runEuclideanAlgorithm_9 10 rfl rfl)
theorem dX2_runEuclideanAlgorithm_219 : decode cX2_runEuclideanAlgorithm 219 = .ok (.invokevirtual 92, 3) := dk_182 0 92 (dk_at dksX2_runEuclideanAlgorithm_9 12 rfl rfl)
theorem dX2_runEuclideanAlgorithm_222 : decode cX2_runEuclideanAlgorithm 222 = .ok (.invokevirtual 94, 3) := dk_182 0 94 (dk_at dksX2_runEuclideanAlgorithm_9 15 rfl rfl)
theorem dX2_runEuclideanAlgorithm_225 : decode cX2_runEuclideanAlgorithm 225 = .ok (.astore 7, 2) := dk_58 7 (dk_at dksX2_runEuclideanAlgorithm_9 18 rfl rfl)
theorem dX2_runEuclideanAlgorithm_227 : decode cX2_runEuclideanAlgorithm 227 = .ok (.goto (-184), 3) := dk_167 255 72 (dk_at dksX2_runEuclideanAlgorithm_9 20 rfl rfl)
theorem dX2_runEuclideanAlgorithm_230 : decode cX2_runEuclideanAlgorithm 230 = .ok (.aload 7, 2) := dk_25 7 (dk_at dksX2_runEuclideanAlgorithm_10 0 rfl rfl)
theorem dX2_runEuclideanAlgorithm_232 : decode cX2_runEuclideanAlgorithm 232 = .ok (.iconst 0, 1) := dk_3 (dk_at dksX2_runEuclideanAlgorithm_10 2 rfl rfl)
theorem dX2_runEuclideanAlgorithm_233 : decode cX2_runEuclideanAlgorithm 233 = .ok (.invokevirtual 78, 3) := dk_182 0 78 (dk_at dksX2_runEuclideanAlgorithm_10 3 rfl rfl)
theorem dX2_runEuclideanAlgorithm_236 : decode cX2_runEuclideanAlgorithm 236 = .ok (.istore 8, 2) := dk_54 8 (dk_at dksX2_runEuclideanAlgorithm_10 6 rfl rfl)
theorem dX2_runEuclideanAlgorithm_238 : decode cX2_runEuclideanAlgorithm 238 = .ok (.iload 8, 2) := dk_21 8 (dk_at dksX2_runEuclideanAlgorithm_10 8 rfl rfl)
theorem dX2_runEuclideanAlgorithm_240 : decode cX2_runEuclideanAlgorithm 240 = .ok (.ifCond .ne 7, 3) := dk_154 0 7 (dk_at dksX2_runEuclideanAlgorithm_10 10 rfl rfl)
theorem dX2_runEuclideanAlgorithm_243 : decode cX2_runEuclideanAlgorithm 243 = .ok (.invokestatic 61, 3) := dk_184 0 61 (dk_at dksX2_runEuclideanAlgorithm_10 13 rfl rfl)
theorem dX2_runEuclideanAlgorithm_246 : decode cX2_runEuclideanAlgorithm 246 = .ok (.athrow, 1) := dk_191 (dk_at dksX2_runEuclideanAlgorithm_10 16 rfl rfl)
theorem dX2_runEuclideanAlgorithm_247 : decode cX2_runEuclideanAlgorithm 247 = .ok (.aload_n 0, 1) := dk_42 (dk_at dksX2_runEuclideanAlgorithm_10 17 rfl rfl)
theorem dX2_runEuclideanAlgorithm_248 : decode cX2_runEuclideanAlgorithm 248 = .ok (.getfield 13, 3) := dk_180 0 13 (dk_at dksX2_runEuclideanAlgorithm_10 18 rfl rfl)
theorem dX2_runEuclideanAlgorithm_251 : decode cX2_runEuclideanAlgorithm 251 = .ok (.iload 8, 2) := dk_21 8 (dk_at dksX2_runEuclideanAlgorithm_10 21 rfl rfl)
theorem dX2_runEuclideanAlgorithm_253 : decode cX2_runEuclideanAlgorithm 253 = .ok (.invokevirtual 81, 3) := dk_182 0 81 (dk_at dksX2_runEuclideanAlgorithm_11 0 rfl rfl)
theorem dX2_runEuclideanAlgorithm_256 : decode cX2_runEuclideanAlgorithm 256 = .ok (.istore 9, 2) := dk_54 9 (dk_at dksX2_runEuclideanAlgorithm_11 3 rfl rfl)
theorem dX2_runEuclideanAlgorithm_258 : decode cX2_runEuclideanAlgorithm 258 = .ok (.aload 7, 2) := dk_25 7 (dk_at dksX2_runEuclideanAlgorithm_11 5 rfl rfl)
theorem dX2_runEuclideanAlgorithm_260 : decode cX2_runEuclideanAlgorithm 260 = .ok (.iload 9, 2) := dk_21 9 (dk_at dksX2_runEuclideanAlgorithm_11 7 rfl rfl)
theorem dX2_runEuclideanAlgorithm_262 : decode cX2_runEuclideanAlgorithm 262 = .ok (.invokevirtual 97, 3) := dk_182 0 97 (dk_at dksX2_runEuclideanAlgorithm_11 9 rfl rfl)
theorem dX2_runEuclideanAlgorithm_265 : decode cX2_runEuclideanAlgorithm 265 = .ok (.astore 10, 2) := dk_58 10 (dk_at dksX2_runEuclideanAlgorithm_11 12 rfl rfl)
theorem dX2_runEuclideanAlgorithm_267 : decode cX2_runEuclideanAlgorithm 267 = .ok (.aload 5, 2) := dk_25 5 (dk_at dksX2_runEuclideanAlgorithm_11 14 rfl rfl)
theorem dX2_runEuclideanAlgorithm_269 : decode cX2_runEuclideanAlgorithm 269 = .ok (.iload 9, 2) := dk_21 9 (dk_at dksX2_runEuclideanAlgorithm_11 16 rfl rfl)
theorem dX2_runEuclideanAlgorithm_271 : decode cX2_runEuclideanAlgorithm 271 = .ok (.invokevirtual 97, 3) := dk_182 0 97 (dk_at dksX2_runEuclideanAlgorithm_11 18 rfl rfl)
theorem dX2_runEuclideanAlgorithm_274 : decode cX2_runEuclideanAlgorithm 274 = .ok (.astore 11, 2) := dk_58 11 (dk_at dksX2_runEuclideanAlgorithm_11 21 rfl rfl)
theorem dX2_runEuclideanAlgorithm_276 : decode cX2_runEuclideanAlgorithm 276 = .ok (.iconst 2, 1) := dk_5 (dk_at dksX2_runEuclideanAlgorithm_11 23 rfl rfl)
theorem dX2_runEuclideanAlgorithm_277 : decode cX2_runEuclideanAlgorithm 277 = .ok (.anewarray 18, 3) := dk_189 0 18 (dk_at dksX2_runEuclideanAlgorithm_12 0 rfl rfl)
theorem dX2_runEuclideanAlgorithm_280 : decode cX2_runEuclideanAlgorithm 280 = .ok (.dup, 1) := dk_89 (dk_at dksX2_runEuclideanAlgorithm_12 3 rfl rfl)
theorem dX2_runEuclideanAlgorithm_281 : decode cX2_runEuclideanAlgorithm 281 = .ok (.iconst 0, 1) := dk_3 (dk_at dksX2_runEuclideanAlgorithm_12 4 rfl rfl)
theorem dX2_runEuclideanAlgorithm_282 : decode cX2_runEuclideanAlgorithm 282 = .ok (.aload 10, 2) := dk_25 10 (dk_at dksX2_runEuclideanAlgorithm_12 5 rfl rfl)
theorem dX2_runEuclideanAlgorithm_284 : decode cX2_runEuclideanAlgorithm 284 = .ok (.aastore, 1) := dk_83 (dk_at dksX2_runEuclideanAlgorithm_12 7 rfl rfl)
theorem dX2_runEuclideanAlgorithm_285 : decode cX2_runEuclideanAlgorithm 285 = .ok (.dup, 1) := dk_89 (dk_at dksX2_runEuclideanAlgorithm_12 8 rfl rfl)
theorem dX2_runEuclideanAlgorithm_286 : decode cX2_runEuclideanAlgorithm 286 = .ok (.iconst 1, 1) := dk_4 (dk_at dksX2_runEuclideanAlgorithm_12 9 rfl rfl)
theorem dX2_runEuclideanAlgorithm_287 : decode cX2_runEuclideanAlgorithm 287 = .ok (.aload 11, 2) := dk_25 11 (dk_at dksX2_runEuclideanAlgorithm_12 10 rfl rfl)
theorem dX2_runEuclideanAlgorithm_289 : decode cX2_runEuclideanAlgorithm 289 = .ok (.aastore, 1) := dk_83 (dk_at dksX2_runEuclideanAlgorithm_12 12 rfl rfl)
theorem dX2_runEuclideanAlgorithm_290 : decode cX2_runEuclideanAlgorithm 290 = .ok (.areturn, 1) := dk_176 (dk_at dksX2_runEuclideanAlgorithm_12 13 rfl rfl)
abbrev cX2_findErrorLocations : ByteArray := prog_2_method_4_code
def yX2_findErrorLocations : MethodName := ⟨RX2, "findErrorLocations", "(LModulusPoly;)[I"⟩
def dkwX2_findErrorLocations_3 : List UInt8 := [184, 0, 61, 191, 45, 176]
abbrev dktX2_findErrorLocations_3 : List UInt8 := dkwX2_findErrorLocations_3 ++ []
def dkwX2_findErrorLocations_2 : List UInt8 := [180, 0, 13, 21, 5, 182, 0, 81, 79, 132, 4, 1, 132, 5, 1, 167, 255, 210, 21, 4, 28, 159, 0, 7]
abbrev dktX2_findErrorLocations_2 : List UInt8 := dkwX2_findErrorLocations_2 ++ dktX2_findErrorLocations_3
def dkwX2_findErrorLocations_1 : List UInt8 := [162, 0, 40, 21, 4, 28, 162, 0, 34, 43, 21, 5, 182, 0, 27, 154, 0, 19, 45, 21, 4, 42]
abbrev dktX2_findErrorLocations_1 : List UInt8 := dkwX2_findErrorLocations_1 ++ dktX2_findErrorLocations_2
def dkwX2_findErrorLocations_0 : List UInt8 := [43, 182, 0, 67, 61, 28, 188, 10, 78, 3, 54, 4, 4, 54, 5, 21, 5, 42, 180, 0, 13, 182, 0, 100]
abbrev dktX2_findErrorLocations_0 : List UInt8 := dkwX2_findErrorLocations_0 ++ dktX2_findErrorLocations_1
theorem dksX2_findErrorLocations_0 : cX2_findErrorLocations.data.toList.drop 0 = dktX2_findErrorLocations_0 := by decide +kernel
theorem dksX2_findErrorLocations_1 : cX2_findErrorLocations.data.toList.drop 24 = dktX2_findErrorLocations_1 := dk_seg dksX2_findErrorLocations_0 24 rfl rfl
theorem dksX2_findErrorLocations_2 : cX2_findErrorLocations.data.toList.drop 46 = dktX2_findErrorLocations_2 := dk_seg dksX2_findErrorLocations_1 22 rfl rfl
theorem dksX2_findErrorLocations_3 : cX2_findErrorLocations.data.toList.drop 70 = dktX2_findErrorLocations_3 := dk_seg dksX2_findErrorLocations_2 24 rfl rfl
theorem dX2_findErrorLocations_0 : decode cX2_findErrorLocations 0 = .ok (.aload_n 1, 1) := dk_43 (dk_at dksX2_findErrorLocations_0 0 rfl rfl)
theorem dX2_findErrorLocations_1 : decode cX2_findErrorLocations 1 = .ok (.invokevirtual 67, 3) := dk_182 0 67 (dk_at dksX2_findErrorLocations_0 1 rfl rfl)
theorem dX2_findErrorLocations_4 : decode cX2_findErrorLocations 4 = .ok (.istore_n 2, 1) := dk_61 (dk_at dksX2_findErrorLocations_0 4 rfl rfl)
theorem dX2_findErrorLocations_5 : decode cX2_findErrorLocations 5 = .ok (.iload_n 2, 1) := dk_28 (dk_at dksX2_findErrorLocations_0 5 rfl rfl)
theorem dX2_findErrorLocations_6 : decode cX2_findErrorLocations 6 = .ok (.newarray .int, 2) := dk_188_10 (dk_at dksX2_findErrorLocations_0 6 rfl rfl)
theorem dX2_findErrorLocations_8 : decode cX2_findErrorLocations 8 = .ok (.astore_n 3, 1) := dk_78 (dk_at dksX2_findErrorLocations_0 8 rfl rfl)
theorem dX2_findErrorLocations_9 : decode cX2_findErrorLocations 9 = .ok (.iconst 0, 1) := dk_3 (dk_at dksX2_findErrorLocations_0 9 rfl rfl)
theorem dX2_findErrorLocations_10 : decode cX2_findErrorLocations 10 = .ok (.istore 4, 2) := dk_54 4 (dk_at dksX2_findErrorLocations_0 10 rfl rfl)
theorem dX2_findErrorLocations_12 : decode cX2_findErrorLocations 12 = .ok (.iconst 1, 1) := dk_4 (dk_at dksX2_findErrorLocations_0 12 rfl rfl)
theorem dX2_findErrorLocations_13 : decode cX2_findErrorLocations 13 = .ok (.istore 5, 2) := dk_54 5 (dk_at dksX2_findErrorLocations_0 13 rfl rfl)
theorem dX2_findErrorLocations_15 : decode cX2_findErrorLocations 15 = .ok (.iload 5, 2) := dk_21 5 (dk_at dksX2_findErrorLocations_0 15 rfl rfl)
theorem dX2_findErrorLocations_17 : decode cX2_findErrorLocations 17 = .ok (.aload_n 0, 1) := dk_42 (dk_at dksX2_findErrorLocations_0 17 rfl rfl)
theorem dX2_findErrorLocations_18 : decode cX2_findErrorLocations 18 = .ok (.getfield 13, 3) := dk_180 0 13 (dk_at dksX2_findErrorLocations_0 18 rfl rfl)
theorem dX2_findErrorLocations_21 : decode cX2_findErrorLocations 21 = .ok (.invokevirtual 100, 3) := dk_182 0 100 (dk_at dksX2_findErrorLocations_0 21 rfl rfl)
theorem dX2_findErrorLocations_24 : decode cX2_findErrorLocations 24 = .ok (.if_icmp .ge 40, 3) := dk_162 0 40 (dk_at dksX2_findErrorLocations_1 0 rfl rfl)
theorem dX2_findErrorLocations_27 : decode cX2_findErrorLocations 27 = .ok (.iload 4, 2) := dk_21 4 (dk_at dksX2_findErrorLocations_1 3 rfl rfl)
theorem dX2_findErrorLocations_29 : decode cX2_findErrorLocations 29 = .ok (.iload_n 2, 1) := dk_28 (dk_at dksX2_findErrorLocations_1 5 rfl rfl)
theorem dX2_findErrorLocations_30 : decode cX2_findErrorLocations 30 = .ok (.if_icmp .ge 34, 3) := dk_162 0 34 (dk_at dksX2_findErrorLocations_1 6 rfl rfl)
theorem dX2_findErrorLocations_33 : decode cX2_findErrorLocations 33 = .ok (.aload_n 1, 1) := dk_43 (dk_at dksX2_findErrorLocations_1 9 rfl rfl)
theorem dX2_findErrorLocations_34 : decode cX2_findErrorLocations 34 = .ok (.iload 5, 2) := dk_21 5 (dk_at dksX2_findErrorLocations_1 10 rfl rfl)
theorem dX2_findErrorLocations_36 : decode cX2_findErrorLocations 36 = .ok (.invokevirtual 27, 3) := dk_182 0 27 (dk_at dksX2_findErrorLocations_1 12 rfl rfl)
theorem dX2_findErrorLocations_39 : decode cX2_findErrorLocations 39 = .ok (.ifCond .ne 19, 3) := dk_154 0 19 (dk_at dksX2_findErrorLocations_1 15 rfl rfl)
theorem dX2_findErrorLocations_42 : decode cX2_findErrorLocations 42 = .ok (.aload_n 3, 1) := dk_45 (dk_at dksX2_findErrorLocations_1 18 rfl rfl)
theorem dX2_findErrorLocations_43 : decode cX2_findErrorLocations 43 = .ok (.iload 4, 2) := dk_21 4 (dk_at dksX2_findErrorLocations_1 19 rfl rfl)
theorem dX2_findErrorLocations_45 : decode cX2_findErrorLocations 45 = .ok (.aload_n 0, 1) := dk_42 (dk_at dksX2_findErrorLocations_1 21 rfl rfl)
theorem dX2_findErrorLocations_46 : decode cX2_findErrorLocations 46 = .ok (.getfield 13, 3) := dk_180 0 13 (dk_at dksX2_findErrorLocations_2 0 rfl rfl)
theorem dX2_findErrorLocations_49 : decode cX2_findErrorLocations 49 = .ok (.iload 5, 2) := dk_21 5 (dk_at dksX2_findErrorLocations_2 3 rfl rfl)
theorem dX2_findErrorLocations_51 : decode cX2_findErrorLocations 51 = .ok (.invokevirtual 81, 3) := dk_182 0 81 (dk_at dksX2_findErrorLocations_2 5 rfl rfl)
theorem dX2_findErrorLocations_54 : decode cX2_findErrorLocations 54 = .ok (.iastore, 1) := dk_79 (dk_at dksX2_findErrorLocations_2 8 rfl rfl)
theorem dX2_findErrorLocations_55 : decode cX2_findErrorLocations 55 = .ok (.iinc 4 1, 3) := dk_132 4 1 (dk_at dksX2_findErrorLocations_2 9 rfl rfl)
theorem dX2_findErrorLocations_58 : decode cX2_findErrorLocations 58 = .ok (.iinc 5 1, 3) := dk_132 5 1 (dk_at dksX2_findErrorLocations_2 12 rfl rfl)
theorem dX2_findErrorLocations_61 : decode cX2_findErrorLocations 61 = .ok (.goto (-46), 3) := dk_167 255 210 (dk_at dksX2_findErrorLocations_2 15 rfl rfl)
theorem dX2_findErrorLocations_64 : decode cX2_findErrorLocations 64 = .ok (.iload 4, 2) := dk_21 4 (dk_at dksX2_findErrorLocations_2 18 rfl rfl)
theorem dX2_findErrorLocations_66 : decode cX2_findErrorLocations 66 = .ok (.iload_n 2, 1) := dk_28 (dk_at dksX2_findErrorLocations_2 20 rfl rfl)
theorem dX2_findErrorLocations_67 : decode cX2_findErrorLocations 67 = .ok (.if_icmp .eq 7, 3) := dk_159 0 7 (dk_at dksX2_findErrorLocations_2 21 rfl rfl)
theorem dX2_findErrorLocations_70 : decode cX2_findErrorLocations 70 = .ok (.invokestatic 61, 3) := dk_184 0 61 (dk_at dksX2_findErrorLocations_3 0 rfl rfl)
theorem dX2_findErrorLocations_73 : decode cX2_findErrorLocations 73 = .ok (.athrow, 1) := dk_191 (dk_at dksX2_findErrorLocations_3 3 rfl rfl)
theorem dX2_findErrorLocations_74 : decode cX2_findErrorLocations 74 = .ok (.aload_n 3, 1) := dk_45 (dk_at dksX2_findErrorLocations_3 4 rfl rfl)
theorem dX2_findErrorLocations_75 : decode cX2_findErrorLocations 75 = .ok (.areturn, 1) := dk_176 (dk_at dksX2_findErrorLocations_3 5 rfl rfl)
abbrev cX2_findErrorMagnitudes : ByteArray := prog_2_method_5_code
def yX2_findErrorMagnitudes : MethodName := ⟨RX2, "findErrorMagnitudes", "(LModulusPoly;LModulusPoly;[I)[I"⟩
def dkwX2_findErrorMagnitudes_7 : List UInt8 := [176]
abbrev dktX2_findErrorMagnitudes_7 : List UInt8 := dkwX2_findErrorMagnitudes_7 ++ []
def dkwX2_findErrorMagnitudes_6 : List UInt8 := [25, 8, 21, 9, 42, 180, 0, 13, 21, 11, 21, 12, 182, 0, 84, 79, 132, 9, 1, 167, 255, 185, 25, 8]
abbrev dktX2_findErrorMagnitudes_6 : List UInt8 := dkwX2_findErrorMagnitudes_6 ++ dktX2_findErrorMagnitudes_7
def dkwX2_findErrorMagnitudes_5 : List UInt8 := [182, 0, 27, 182, 0, 34, 54, 11, 42, 180, 0, 13, 25, 6, 21, 10, 182, 0, 27, 182, 0, 81, 54, 12]
abbrev dktX2_findErrorMagnitudes_5 : List UInt8 := dkwX2_findErrorMagnitudes_5 ++ dktX2_findErrorMagnitudes_6
def dkwX2_findErrorMagnitudes_4 : List UInt8 := [162, 0, 70, 42, 180, 0, 13, 45, 21, 9, 46, 182, 0, 81, 54, 10, 42, 180, 0, 13, 3, 43, 21, 10]
abbrev dktX2_findErrorMagnitudes_4 : List UInt8 := dkwX2_findErrorMagnitudes_4 ++ dktX2_findErrorMagnitudes_5
def dkwX2_findErrorMagnitudes_3 : List UInt8 := [25, 5, 183, 0, 20, 58, 6, 45, 190, 54, 7, 21, 7, 188, 10, 58, 8, 3, 54, 9, 21, 9, 21, 7]
abbrev dktX2_findErrorMagnitudes_3 : List UInt8 := dkwX2_findErrorMagnitudes_3 ++ dktX2_findErrorMagnitudes_4
def dkwX2_findErrorMagnitudes_2 : List UInt8 := [21, 6, 182, 0, 78, 182, 0, 84, 79, 132, 6, 1, 167, 255, 223, 187, 0, 18, 89, 42, 180, 0, 13]
abbrev dktX2_findErrorMagnitudes_2 : List UInt8 := dkwX2_findErrorMagnitudes_2 ++ dktX2_findErrorMagnitudes_3
def dkwX2_findErrorMagnitudes_1 : List UInt8 := [54, 6, 21, 6, 21, 4, 163, 0, 32, 25, 5, 21, 4, 21, 6, 100, 42, 180, 0, 13, 21, 6, 44]
abbrev dktX2_findErrorMagnitudes_1 : List UInt8 := dkwX2_findErrorMagnitudes_1 ++ dktX2_findErrorMagnitudes_2
def dkwX2_findErrorMagnitudes_0 : List UInt8 := [44, 182, 0, 67, 54, 4, 21, 4, 4, 162, 0, 7, 3, 188, 10, 176, 21, 4, 188, 10, 58, 5, 4]
abbrev dktX2_findErrorMagnitudes_0 : List UInt8 := dkwX2_findErrorMagnitudes_0 ++ dktX2_findErrorMagnitudes_1
theorem dksX2_findErrorMagnitudes_0 : cX2_findErrorMagnitudes.data.toList.drop 0 = dktX2_findErrorMagnitudes_0 := by decide +kernel
theorem dksX2_findErrorMagnitudes_1 : cX2_findErrorMagnitudes.data.toList.drop 23 = dktX2_findErrorMagnitudes_1 := dk_seg dksX2_findErrorMagnitudes_0 23 rfl rfl
theorem dksX2_findErrorMagnitudes_2 : cX2_findErrorMagnitudes.data.toList.drop 46 = dktX2_findErrorMagnitudes_2 := dk_seg dksX2_findErrorMagnitudes_1 23 rfl rfl
theorem dksX2_findErrorMagnitudes_3 : cX2_findErrorMagnitudes.data.toList.drop 69 = dktX2_findErrorMagnitudes_3 := dk_seg dksX2_findErrorMagnitudes_2 23 rfl rfl
theorem dksX2_findErrorMagnitudes_4 : cX2_findErrorMagnitudes.data.toList.drop 93 = dktX2_findErrorMagnitudes_4 := dk_seg dksX2_findErrorMagnitudes_3 24 rfl rfl
theorem dksX2_findErrorMagnitudes_5 : cX2_findErrorMagnitudes.data.toList.drop 117 = dktX2_findErrorMagnitudes_5 := dk_seg dksX2_findErrorMagnitudes_4 24 rfl rfl
theorem dksX2_findErrorMagnitudes_6 : cX2_findErrorMagnitudes.data.toList.drop 141 = dktX2_findErrorMagnitudes_6 := dk_seg dksX2_findErrorMagnitudes_5 24 rfl rfl
theorem dksX2_findErrorMagnitudes_7 : cX2_findErrorMagnitudes.data.toList.drop 165 = dktX2_findErrorMagnitudes_7 := dk_seg dksX2_findErrorMagnitudes_6 24 rfl rfl
theorem dX2_findErrorMagnitudes_0 : decode cX2_findErrorMagnitudes 0 = .ok (.aload_n 2, 1) := dk_44 (dk_at dksX2_findErrorMagnitudes_0 0 rfl rfl)
theorem dX2_findErrorMagnitudes_1 : decode cX2_findErrorMagnitudes 1 = .ok (.invokevirtual 67, 3) := dk_182 0 67 (dk_at dksX2_findErrorMagnitudes_0 1 rfl rfl)
theorem dX2_findErrorMagnitudes_4 : decode cX2_findErrorMagnitudes 4 = .ok (.istore 4, 2) := dk_54 4 (dk_at dksX2_findErrorMagnitudes_0 4 rfl rfl)
theorem dX2_findErrorMagnitudes_6 : decode cX2_findErrorMagnitudes 6 = .ok (.iload 4, 2) := dk_21 4 (dk_at dksX2_findErrorMagnitudes_0 6 rfl rfl)
theorem dX2_findErrorMagnitudes_8 : decode cX2_findErrorMagnitudes 8 = .ok (.iconst 1, 1) := dk_4 (dk_at dksX2_findErrorMagnitudes_0 8 rfl rfl)
theorem dX2_findErrorMagnitudes_9 : decode cX2_findErrorMagnitudes 9 = .ok (.if_icmp .ge 7, 3) := dk_162 0 7 (dk_at dksX2_findErrorMagnitudes_0 9 rfl rfl)
theorem dX2_findErrorMagnitudes_12 : decode cX2_findErrorMagnitudes 12 = .ok (.iconst 0, 1) := dk_3 (dk_at dksX2_findErrorMagnitudes_0 12 rfl rfl)
theorem dX2_findErrorMagnitudes_13 : decode cX2_findErrorMagnitudes 13 = .ok (.newarray .int, 2) := dk_188_10 (dk_at dksX2_findErrorMagnitudes_0 13 rfl rfl)
theorem dX2_findErrorMagnitudes_15 : decode cX2_findErrorMagnitudes 15 = .ok (.areturn, 1) := dk_176 (dk_at dksX2_findErrorMagnitudes_0 15 rfl rfl)
theorem dX2_findErrorMagnitudes_16 : decode cX2_findErrorMagnitudes 16 = .ok (.iload 4, 2) := dk_21 4 (dk_at dksX2_findErrorMagnitudes_0 16 rfl rfl)
theorem dX2_findErrorMagnitudes_18 : decode cX2_findErrorMagnitudes 18 = .ok (.newarray .int, 2) := dk_188_10 (dk_at dksX2_findErrorMagnitudes_0 18 rfl rfl)
theorem dX2_findErrorMagnitudes_20 : decode cX2_findErrorMagnitudes 20 = .ok (.astore 5, 2) := dk_58 5 (dk_at dksX2_findErrorMagnitudes_0 20 rfl rfl)
theorem dX2_findErrorMagnitudes_22 : decode cX2_findErrorMagnitudes 22 = .ok (.iconst 1, 1) := dk_4 (dk_at dksX2_findErrorMagnitudes_0 22 rfl rfl)
theorem dX2_findErrorMagnitudes_23 : decode cX2_findErrorMagnitudes 23 = .ok (.istore 6, 2) := dk_54 6 (dk_at dksX2_findErrorMagnitudes_1 0 rfl rfl)
theorem dX2_findErrorMagnitudes_25 : decode cX2_findErrorMagnitudes 25 = .ok (.iload 6, 2) := dk_21 6 (dk_at dksX2_findErrorMagnitudes_1 2 rfl rfl)
theorem dX2_findErrorMagnitudes_27 : decode cX2_findErrorMagnitudes 27 = .ok (.iload 4, 2) := dk_21 4 (dk_at dksX2_findErrorMagnitudes_1 4 rfl rfl)
theorem dX2_findErrorMagnitudes_29 : decode cX2_findErrorMagnitudes 29 = .ok (.if_icmp .gt 32, 3) := dk_163 0 32 (dk_at dksX2_findErrorMagnitudes_1 6 rfl rfl)
theorem dX2_findErrorMagnitudes_32 : decode cX2_findErrorMagnitudes 32 = .ok (.aload 5, 2) := dk_25 5 (dk_at dksX2_findErrorMagnitudes_1 9 rfl rfl)
theorem dX2_findErrorMagnitudes_34 : decode cX2_findErrorMagnitudes 34 = .ok (.iload 4, 2) := dk_21 4 (dk_at dksX2_findErrorMagnitudes_1 11 rfl rfl)
theorem dX2_findErrorMagnitudes_36 : decode cX2_findErrorMagnitudes 36 = .ok (.iload 6, 2) := dk_21 6 (dk_at dksX2_findErrorMagnitudes_1 13 rfl rfl)
theorem dX2_findErrorMagnitudes_38 : decode cX2_findErrorMagnitudes 38 = .ok (.isub, 1) := dk_100 (dk_at dksX2_findErrorMagnitudes_1 15 rfl rfl)
theorem dX2_findErrorMagnitudes_39 : decode cX2_findErrorMagnitudes 39 = .ok (.aload_n 0, 1) := dk_42 (dk_at dksX2_findErrorMagnitudes_1 16 rfl rfl)
theorem dX2_findErrorMagnitudes_40 : decode cX2_findErrorMagnitudes 40 = .ok (.getfield 13, 3) := dk_180 0 13 (dk_at dksX2_findErrorMagnitudes_1 17 rfl rfl)
theorem dX2_findErrorMagnitudes_43 : decode cX2_findErrorMagnitudes 43 = .ok (.iload 6, 2) := dk_21 6 (dk_at dksX2_findErrorMagnitudes_1 20 rfl rfl)
theorem dX2_findErrorMagnitudes_45 : decode cX2_findErrorMagnitudes 45 = .ok (.aload_n 2, 1) := dk_44 (dk_at dksX2_findErrorMagnitudes_1 22 rfl rfl)
theorem dX2_findErrorMagnitudes_46 : decode cX2_findErrorMagnitudes 46 = .ok (.iload 6, 2) := dk_21 6 (dk_at dksX2_findErrorMagnitudes_2 0 rfl rfl)
theorem dX2_findErrorMagnitudes_48 : decode cX2_findErrorMagnitudes 48 = .ok (.invokevirtual 78, 3) := dk_182 0 78 (dk_at dksX2_findErrorMagnitudes_2 2 rfl rfl)
theorem dX2_findErrorMagnitudes_51 : decode cX2_findErrorMagnitudes 51 = .ok (.invokevirtual 84, 3) := dk_182 0 84 (dk_at dksX2_findErrorMagnitudes_2 5 rfl rfl)
theorem dX2_findErrorMagnitudes_54 : decode cX2_findErrorMagnitudes 54 = .ok (.iastore, 1) := dk_79 (dk_at dksX2_findErrorMagnitudes_2 8 rfl rfl)
theorem dX2_findErrorMagnitudes_55 : decode cX2_findErrorMagnitudes 55 = .ok (.iinc 6 1, 3) := dk_132 6 1 (dk_at dksX2_findErrorMagnitudes_2 9 rfl rfl)
theorem dX2_findErrorMagnitudes_58 : decode cX2_findErrorMagnitudes 58 = .ok (.goto (-33), 3) := dk_167 255 223 (dk_at dksX2_findErrorMagnitudes_2 12 rfl rfl)
theorem dX2_findErrorMagnitudes_61 : decode cX2_findErrorMagnitudes 61 = .ok (.new 18, 3) := dk_187 0 18 (dk_at dksX2_findErrorMagnitudes_2 15 rfl rfl)
theorem dX2_findErrorMagnitudes_64 : decode cX2_findErrorMagnitudes 64 = .ok (.dup, 1) := dk_89 (dk_at dksX2_findErrorMagnitudes_2 18 rfl rfl)
theorem dX2_findErrorMagnitudes_65 : decode cX2_findErrorMagnitudes 65 = .ok (.aload_n 0, 1) := dk_42 (dk_at dksX2_findErrorMagnitudes_2 19 rfl rfl)
theorem dX2_findErrorMagnitudes_66 : decode cX2_findErrorMagnitudes 66 = .ok (.getfield 13, 3) := dk_180 0 13 (dk_at dksX2_findErrorMagnitudes_2 20 rfl rfl)
theorem dX2_findErrorMagnitudes_69 : decode cX2_findErrorMagnitudes 69 = .ok (.aload 5, 2) := dk_25 5 (dk_at dksX2_findErrorMagnitudes_3 0 rfl rfl)
theorem dX2_findErrorMagnitudes_71 : decode cX2_findErrorMagnitudes 71 = .ok (.invokespecial 20, 3) := dk_183 0 20 (dk_at dksX2_findErrorMagnitudes_3 2 rfl rfl)
theorem dX2_findErrorMagnitudes_74 : decode cX2_findErrorMagnitudes 74 = .ok (.astore 6, 2) := dk_58 6 (dk_at dksX2_findErrorMagnitudes_3 5 rfl rfl)
theorem dX2_findErrorMagnitudes_76 : decode cX2_findErrorMagnitudes 76 = .ok (.aload_n 3, 1) := dk_45 (dk_at dksX2_findErrorMagnitudes_3 7 rfl rfl)
theorem dX2_findErrorMagnitudes_77 : decode cX2_findErrorMagnitudes 77 = .ok (.arraylength, 1) := dk_190 (dk_at dksX2_findErrorMagnitudes_3 8 rfl rfl)
theorem dX2_findErrorMagnitudes_78 : decode cX2_findErrorMagnitudes 78 = .ok (.istore 7, 2) := dk_54 7 (dk_at dksX2_findErrorMagnitudes_3 9 rfl rfl)
theorem dX2_findErrorMagnitudes_80 : decode cX2_findErrorMagnitudes 80 = .ok (.iload 7, 2) := dk_21 7 (dk_at dksX2_findErrorMagnitudes_3 11 rfl rfl)
theorem dX2_findErrorMagnitudes_82 : decode cX2_findErrorMagnitudes 82 = .ok (.newarray .int, 2) := dk_188_10 (dk_at dksX2_findErrorMagnitudes_3 13 rfl rfl)
theorem dX2_findErrorMagnitudes_84 : decode cX2_findErrorMagnitudes 84 = .ok (.astore 8, 2) := dk_58 8 (dk_at dksX2_findErrorMagnitudes_3 15 rfl rfl)
theorem dX2_findErrorMagnitudes_86 : decode cX2_findErrorMagnitudes 86 = .ok (.iconst 0, 1) := dk_3 (dk_at dksX2_findErrorMagnitudes_3 17 rfl rfl)
theorem dX2_findErrorMagnitudes_87 : decode cX2_findErrorMagnitudes 87 = .ok (.istore 9, 2) := dk_54 9 (dk_at dksX2_findErrorMagnitudes_3 18 rfl rfl)
theorem dX2_findErrorMagnitudes_89 : decode cX2_findErrorMagnitudes 89 = .ok (.iload 9, 2) := dk_21 9 (dk_at dksX2_findErrorMagnitudes_3 20 rfl rfl)
theorem dX2_findErrorMagnitudes_91 : decode cX2_findErrorMagnitudes 91 = .ok (.iload 7, 2) := dk_21 7 (dk_at dksX2_findErrorMagnitudes_3 22 rfl rfl)
theorem dX2_findErrorMagnitudes_93 : decode cX2_findErrorMagnitudes 93 = .ok (.if_icmp .ge 70, 3) := dk_162 0 70 (dk_at dksX2_findErrorMagnitudes_4 0 rfl rfl)
theorem dX2_findErrorMagnitudes_96 : decode cX2_findErrorMagnitudes 96 = .ok (.aload_n 0, 1) := dk_42 (dk_at dksX2_findErrorMagnitudes_4 3 rfl rfl)
theorem dX2_findErrorMagnitudes_97 : decode cX2_findErrorMagnitudes 97 = .ok (.getfield 13, 3) := dk_180 0 13 (dk_at dksX2_findErrorMagnitudes_4 4 rfl rfl)
theorem dX2_findErrorMagnitudes_100 : decode cX2_findErrorMagnitudes 100 = .ok (.aload_n 3, 1) := dk_45 (dk_at dksX2_findErrorMagnitudes_4 7 rfl rfl)
theorem dX2_findErrorMagnitudes_101 : decode cX2_findErrorMagnitudes 101 = .ok (.iload 9, 2) := dk_21 9 (dk_at dksX2_findErrorMagnitudes_4 8 rfl rfl)
theorem dX2_findErrorMagnitudes_103 : decode cX2_findErrorMagnitudes 103 = .ok (.iaload, 1) := dk_46 (dk_at dksX2_findErrorMagnitudes_4 10 rfl rfl)
theorem dX2_findErrorMagnitudes_104 : decode cX2_findErrorMagnitudes 104 = .ok (.invokevirtual 81, 3) := dk_182 0 81 (dk_at dksX2_findErrorMagnitudes_4 11 rfl rfl)
theorem dX2_findErrorMagnitudes_107 : decode cX2_findErrorMagnitudes 107 = .ok (.istore 10, 2) := dk_54 10 (dk_at dksX2_findErrorMagnitudes_4 14 rfl rfl)
theorem dX2_findErrorMagnitudes_109 : decode cX2_findErrorMagnitudes 109 = .ok (.aload_n 0, 1) := dk_42 (dk_at dksX2_findErrorMagnitudes_4 16 rfl rfl)
theorem dX2_findErrorMagnitudes_110 : decode cX2_findErrorMagnitudes 110 = .ok (.getfield 13, 3) := dk_180 0 13 (dk_at dksX2_findErrorMagnitudes_4 17 rfl rfl)
theorem dX2_findErrorMagnitudes_113 : decode cX2_findErrorMagnitudes 113 = .ok (.iconst 0, 1) := dk_3 (dk_at dksX2_findErrorMagnitudes_4 20 rfl rfl)
theorem dX2_findErrorMagnitudes_114 : decode cX2_findErrorMagnitudes 114 = .ok (.aload_n 1, 1) := dk_43 (dk_at dksX2_findErrorMagnitudes_4 21 rfl rfl)
theorem dX2_findErrorMagnitudes_115 : decode cX2_findErrorMagnitudes 115 = .ok (.iload 10, 2) := dk_21 10 (dk_at dksX2_findErrorMagnitudes_4 22 rfl rfl)
theorem dX2_findErrorMagnitudes_117 : decode cX2_findErrorMagnitudes 117 = .ok (.invokevirtual 27, 3) := dk_182 0 27 (dk_at dksX2_findErrorMagnitudes_5 0 rfl rfl)
theorem dX2_findErrorMagnitudes_120 : decode cX2_findErrorMagnitudes 120 = .ok (.invokevirtual 34, 3) := dk_182 0 34 (dk_at dksX2_findErrorMagnitudes_5 3 rfl rfl)
theorem dX2_findErrorMagnitudes_123 : decode cX2_findErrorMagnitudes 123 = .ok (.istore 11, 2) := dk_54 11 (dk_at dksX2_findErrorMagnitudes_5 6 rfl rfl)
theorem dX2_findErrorMagnitudes_125 : decode cX2_findErrorMagnitudes 125 = .ok (.aload_n 0, 1) := dk_42 (dk_at dksX2_findErrorMagnitudes_5 8 rfl rfl)
theorem dX2_findErrorMagnitudes_126 : decode cX2_findErrorMagnitudes 126 = .ok (.getfield 13, 3) := dk_180 0 13 (dk_at dksX2_findErrorMagnitudes_5 9 rfl rfl)
theorem dX2_findErrorMagnitudes_129 : decode cX2_findErrorMagnitudes 129 = .ok (.aload 6, 2) := dk_25 6 (dk_at dksX2_findErrorMagnitudes_5 12 rfl rfl)
theorem dX2_findErrorMagnitudes_131 : decode cX2_findErrorMagnitudes 131 = .ok (.iload 10, 2) := dk_21 10 (dk_at dksX2_findErrorMagnitudes_5 14 rfl rfl)
theorem dX2_findErrorMagnitudes_133 : decode cX2_findErrorMagnitudes 133 = .ok (.invokevirtual 27, 3) := dk_182 0 27 (dk_at dksX2_findErrorMagnitudes_5 16 rfl rfl)
theorem dX2_findErrorMagnitudes_136 : decode cX2_findErrorMagnitudes 136 = .ok (.invokevirtual 81, 3) := dk_182 0 81 (dk_at dksX2_findErrorMagnitudes_5 19 rfl rfl)
theorem dX2_findErrorMagnitudes_139 : decode cX2_findErrorMagnitudes 139 = .ok (.istore 12, 2) := dk_54 12 (dk_at dksX2_findErrorMagnitudes_5 22 rfl rfl)
theorem dX2_findErrorMagnitudes_141 : decode cX2_findErrorMagnitudes 141 = .ok (.aload 8, 2) := dk_25 8 (dk_at dksX2_findErrorMagnitudes_6 0 rfl rfl)
theorem dX2_findErrorMagnitudes_143 : decode cX2_findErrorMagnitudes 143 = .ok (.iload 9, 2) := dk_21 9 (dk_at dksX2_findErrorMagnitudes_6 2 rfl rfl)
theorem dX2_findErrorMagnitudes_145 : decode cX2_findErrorMagnitudes 145 = .ok (.aload_n 0, 1) := dk_42 (dk_at dksX2_findErrorMagnitudes_6 4 rfl rfl)
theorem dX2_findErrorMagnitudes_146 : decode cX2_findErrorMagnitudes 146 = .ok (.getfield 13, 3) := dk_180 0 13 (dk_at dksX2_findErrorMagnitudes_6 5 rfl rfl)
theorem dX2_findErrorMagnitudes_149 : decode cX2_findErrorMagnitudes 149 = .ok (.iload 11, 2) := dk_21 11 (dk_at dksX2_findErrorMagnitudes_6 8 rfl rfl)
theorem dX2_findErrorMagnitudes_151 : decode cX2_findErrorMagnitudes 151 = .ok (.iload 12, 2) := dk_21 12 (dk_at dksX2_findErrorMagnitudes_6 10 rfl rfl)
theorem dX2_findErrorMagnitudes_153 : decode cX2_findErrorMagnitudes 153 = .ok (.invokevirtual 84, 3) := dk_182 0 84 (dk_at dksX2_findErrorMagnitudes_6 12 rfl rfl)
theorem dX2_findErrorMagnitudes_156 : decode cX2_findErrorMagnitudes 156 = .ok (.iastore, 1) := dk_79 (dk_at dksX2_findErrorMagnitudes_6 15 rfl rfl)
theorem dX2_findErrorMagnitudes_157 : decode cX2_findErrorMagnitudes 157 = .ok (.iinc 9 1, 3) := dk_132 9 1 (dk_at dksX2_findErrorMagnitudes_6 16 rfl rfl)
theorem dX2_findErrorMagnitudes_160 : decode cX2_findErrorMagnitudes 160 = .ok (.goto (-71), 3) := dk_167 255 185 (dk_at dksX2_findErrorMagnitudes_6 19 rfl rfl)
theorem dX2_findErrorMagnitudes_163 : decode cX2_findErrorMagnitudes 163 = .ok (.aload 8, 2) := dk_25 8 (dk_at dksX2_findErrorMagnitudes_6 22 rfl rfl)
theorem dX2_findErrorMagnitudes_165 : decode cX2_findErrorMagnitudes 165 = .ok (.areturn, 1) := dk_176 (dk_at dksX2_findErrorMagnitudes_7 0 rfl rfl)
theorem q6 : (Jvm.Cond.initialized "ErrorCorrection") ∈ lw_all := lw_g (lw_at lw_m1 2 rfl) rfl
theorem q26 : (Jvm.Cond.instantiable "ErrorCorrection" (1 : Nat)) ∈ lw_all := lw_g (lw_at lw_m1 22 rfl) rfl
theorem q28 : (Jvm.Cond.instanceMethod ({ cls := "ErrorCorrection", name := "<init>", desc := "()V" } : Jvm.MethodName)) ∈ lw_all := lw_g (lw_at lw_m1 24 rfl) rfl
theorem q29 : (Jvm.Cond.code ({ cls := "ErrorCorrection", name := "<init>", desc := "()V" } : Jvm.MethodName) prog_2_method_1_code (1 : Nat) (Option.none : Option Jvm.ClassFile.FieldType)) ∈ lw_all := lw_g (lw_at lw_m1 25 rfl) rfl
theorem q30 : (Jvm.Cond.methodLink "ErrorCorrection" (1 : Nat) ({ cls := "java/lang/Object", name := "<init>", desc := "()V" } : Jvm.MethodName)) ∈ lw_all := lw_g (lw_at lw_m1 26 rfl) rfl
theorem q31 : (Jvm.Cond.fieldLink "ErrorCorrection" (7 : Nat) "ModulusGF" "PDF417_GF" "LModulusGF;") ∈ lw_all := lw_g (lw_at lw_m1 27 rfl) rfl
theorem q33 : (Jvm.Cond.fieldLink "ErrorCorrection" (13 : Nat) "ErrorCorrection" "field" "LModulusGF;") ∈ lw_all := lw_g (lw_at lw_m1 29 rfl) rfl
theorem q34 : (Jvm.Cond.laysFinal "ErrorCorrection" "ErrorCorrection" "field" "LModulusGF;") ∈ lw_all := lw_g (lw_at lw_m1 30 rfl) rfl
theorem q35 : (Jvm.Cond.soleField "ErrorCorrection" "field") ∈ lw_all := lw_g (lw_at lw_m1 31 rfl) rfl
theorem q36 : (Jvm.Cond.superclass "ErrorCorrection" "java/lang/Object") ∈ lw_all := lw_g (lw_at lw_m1 32 rfl) rfl
theorem q91 : (Jvm.Cond.instanceMethod ({ cls := "ErrorCorrection", name := "decode", desc := "([II[I)I" } : Jvm.MethodName)) ∈ lw_all := lw_g (lw_at lw_m1 87 rfl) rfl
theorem q92 : (Jvm.Cond.selects "ErrorCorrection" ({ cls := "ErrorCorrection", name := "decode", desc := "([II[I)I" } : Jvm.MethodName) ({ cls := "ErrorCorrection", name := "decode", desc := "([II[I)I" } : Jvm.MethodName)) ∈ lw_all := lw_g (lw_at lw_m1 88 rfl) rfl
theorem q93 : (Jvm.Cond.code ({ cls := "ErrorCorrection", name := "decode", desc := "([II[I)I" } : Jvm.MethodName) prog_2_method_2_code (16 : Nat) (Option.some Jvm.ClassFile.FieldType.int)) ∈ lw_all := lw_g (lw_at lw_m1 89 rfl) rfl
theorem q94 : (Jvm.Cond.classLink "ErrorCorrection" (18 : Nat) "ModulusPoly") ∈ lw_all := lw_g (lw_at lw_m1 90 rfl) rfl
theorem q96 : (Jvm.Cond.methodLink "ErrorCorrection" (20 : Nat) ({ cls := "ModulusPoly", name := "<init>", desc := "(LModulusGF;[I)V" } : Jvm.MethodName)) ∈ lw_all := lw_g (lw_at lw_m1 92 rfl) rfl
theorem q174 : (Jvm.Cond.methodLink "ErrorCorrection" (23 : Nat) ({ cls := "ModulusGF", name := "exp", desc := "(I)I" } : Jvm.MethodName)) ∈ lw_all := lw_g (lw_at lw_m1 170 rfl) rfl
theorem q178 : (Jvm.Cond.methodLink "ErrorCorrection" (27 : Nat) ({ cls := "ModulusPoly", name := "evaluateAt", desc := "(I)I" } : Jvm.MethodName)) ∈ lw_all := lw_g (lw_at lw_m1 174 rfl) rfl
theorem q194 : (Jvm.Cond.methodLink "ErrorCorrection" (30 : Nat) ({ cls := "ModulusGF", name := "getOne", desc := "()LModulusPoly;" } : Jvm.MethodName)) ∈ lw_all := lw_g (lw_at lw_m1 190 rfl) rfl
theorem q198 : (Jvm.Cond.methodLink "ErrorCorrection" (34 : Nat) ({ cls := "ModulusGF", name := "subtract", desc := "(II)I" } : Jvm.MethodName)) ∈ lw_all := lw_g (lw_at lw_m1 194 rfl) rfl
theorem q202 : (Jvm.Cond.methodLink "ErrorCorrection" (38 : Nat) ({ cls := "ModulusPoly", name := "multiply", desc := "(LModulusPoly;)LModulusPoly;" } : Jvm.MethodName)) ∈ lw_all := lw_g (lw_at lw_m1 198 rfl) rfl
theorem q229 : (Jvm.Cond.methodLink "ErrorCorrection" (42 : Nat) ({ cls := "ModulusGF", name := "buildMonomial", desc := "(II)LModulusPoly;" } : Jvm.MethodName)) ∈ lw_all := lw_g (lw_at lw_m1 225 rfl) rfl
theorem q237 : (Jvm.Cond.methodLink "ErrorCorrection" (46 : Nat) ({ cls := "ErrorCorrection", name := "runEuclideanAlgorithm", desc := "(LModulusPoly;LModulusPoly;I)[LModulusPoly;" } : Jvm.MethodName)) ∈ lw_all := lw_g (lw_at lw_m1 233 rfl) rfl
theorem q238 : (Jvm.Cond.privateMethod ({ cls := "ErrorCorrection", name := "runEuclideanAlgorithm", desc := "(LModulusPoly;LModulusPoly;I)[LModulusPoly;" } : Jvm.MethodName)) ∈ lw_tbl := lw_at lw_m1 234 rfl
theorem q239 : (Jvm.Cond.instanceMethod ({ cls := "ErrorCorrection", name := "runEuclideanAlgorithm", desc := "(LModulusPoly;LModulusPoly;I)[LModulusPoly;" } : Jvm.MethodName)) ∈ lw_all := lw_g (lw_at lw_m1 235 rfl) rfl
theorem q240 : (Jvm.Cond.code ({ cls := "ErrorCorrection", name := "runEuclideanAlgorithm", desc := "(LModulusPoly;LModulusPoly;I)[LModulusPoly;" } : Jvm.MethodName) prog_2_method_3_code (15 : Nat) (Option.some (Jvm.ClassFile.FieldType.array (Jvm.ClassFile.FieldType.object "ModulusPoly")))) ∈ lw_all := lw_g (lw_at lw_m1 236 rfl) rfl
theorem q241 : (Jvm.Cond.methodLink "ErrorCorrection" (67 : Nat) ({ cls := "ModulusPoly", name := "getDegree", desc := "()I" } : Jvm.MethodName)) ∈ lw_all := lw_g (lw_at lw_m1 237 rfl) rfl
theorem q245 : (Jvm.Cond.methodLink "ErrorCorrection" (71 : Nat) ({ cls := "ModulusGF", name := "getZero", desc := "()LModulusPoly;" } : Jvm.MethodName)) ∈ lw_all := lw_g (lw_at lw_m2 1 rfl) rfl
theorem q246 : (Jvm.Cond.methodLink "ErrorCorrection" (74 : Nat) ({ cls := "ModulusPoly", name := "isZero", desc := "()Z" } : Jvm.MethodName)) ∈ lw_all := lw_g (lw_at lw_m2 2 rfl) rfl
theorem q247 : (Jvm.Cond.methodLink "ErrorCorrection" (61 : Nat) ({ cls := "ChecksumException", name := "getChecksumInstance", desc := "()LChecksumException;" } : Jvm.MethodName)) ∈ lw_all := lw_g (lw_at lw_m2 3 rfl) rfl
theorem q252 : (Jvm.Cond.methodLink "ErrorCorrection" (78 : Nat) ({ cls := "ModulusPoly", name := "getCoefficient", desc := "(I)I" } : Jvm.MethodName)) ∈ lw_all := lw_g (lw_at lw_m2 8 rfl) rfl
theorem q253 : (Jvm.Cond.methodLink "ErrorCorrection" (81 : Nat) ({ cls := "ModulusGF", name := "inverse", desc := "(I)I" } : Jvm.MethodName)) ∈ lw_all := lw_g (lw_at lw_m2 9 rfl) rfl
theorem q273 : (Jvm.Cond.methodLink "ErrorCorrection" (84 : Nat) ({ cls := "ModulusGF", name := "multiply", desc := "(II)I" } : Jvm.MethodName)) ∈ lw_all := lw_g (lw_at lw_m2 29 rfl) rfl
theorem q274 : (Jvm.Cond.methodLink "ErrorCorrection" (86 : Nat) ({ cls := "ModulusPoly", name := "add", desc := "(LModulusPoly;)LModulusPoly;" } : Jvm.MethodName)) ∈ lw_all := lw_g (lw_at lw_m2 30 rfl) rfl
theorem q278 : (Jvm.Cond.methodLink "ErrorCorrection" (89 : Nat) ({ cls := "ModulusPoly", name := "multiplyByMonomial", desc := "(II)LModulusPoly;" } : Jvm.MethodName)) ∈ lw_all := lw_g (lw_at lw_m2 34 rfl) rfl
theorem q282 : (Jvm.Cond.methodLink "ErrorCorrection" (92 : Nat) ({ cls := "ModulusPoly", name := "subtract", desc := "(LModulusPoly;)LModulusPoly;" } : Jvm.MethodName)) ∈ lw_all := lw_g (lw_at lw_m2 38 rfl) rfl
theorem q292 : (Jvm.Cond.methodLink "ErrorCorrection" (94 : Nat) ({ cls := "ModulusPoly", name := "negative", desc := "()LModulusPoly;" } : Jvm.MethodName)) ∈ lw_all := lw_g (lw_at lw_m2 48 rfl) rfl
theorem q293 : (Jvm.Cond.methodLink "ErrorCorrection" (97 : Nat) ({ cls := "ModulusPoly", name := "multiply", desc := "(I)LModulusPoly;" } : Jvm.MethodName)) ∈ lw_all := lw_g (lw_at lw_m2 49 rfl) rfl
theorem q298 : (Jvm.Cond.methodLink "ErrorCorrection" (50 : Nat) ({ cls := "ErrorCorrection", name := "findErrorLocations", desc := "(LModulusPoly;)[I" } : Jvm.MethodName)) ∈ lw_all := lw_g (lw_at lw_m2 54 rfl) rfl
theorem q299 : (Jvm.Cond.privateMethod ({ cls := "ErrorCorrection", name := "findErrorLocations", desc := "(LModulusPoly;)[I" } : Jvm.MethodName)) ∈ lw_tbl := lw_at lw_m2 55 rfl
theorem q300 : (Jvm.Cond.instanceMethod ({ cls := "ErrorCorrection", name := "findErrorLocations", desc := "(LModulusPoly;)[I" } : Jvm.MethodName)) ∈ lw_all := lw_g (lw_at lw_m2 56 rfl) rfl
theorem q301 : (Jvm.Cond.code ({ cls := "ErrorCorrection", name := "findErrorLocations", desc := "(LModulusPoly;)[I" } : Jvm.MethodName) prog_2_method_4_code (6 : Nat) (Option.some (Jvm.ClassFile.FieldType.array Jvm.ClassFile.FieldType.int))) ∈ lw_all := lw_g (lw_at lw_m2 57 rfl) rfl
theorem q302 : (Jvm.Cond.methodLink "ErrorCorrection" (100 : Nat) ({ cls := "ModulusGF", name := "getSize", desc := "()I" } : Jvm.MethodName)) ∈ lw_all := lw_g (lw_at lw_m2 58 rfl) rfl
theorem q306 : (Jvm.Cond.methodLink "ErrorCorrection" (54 : Nat) ({ cls := "ErrorCorrection", name := "findErrorMagnitudes", desc := "(LModulusPoly;LModulusPoly;[I)[I" } : Jvm.MethodName)) ∈ lw_all := lw_g (lw_at lw_m2 62 rfl) rfl
theorem q307 : (Jvm.Cond.privateMethod ({ cls := "ErrorCorrection", name := "findErrorMagnitudes", desc := "(LModulusPoly;LModulusPoly;[I)[I" } : Jvm.MethodName)) ∈ lw_tbl := lw_at lw_m2 63 rfl
theorem q308 : (Jvm.Cond.instanceMethod ({ cls := "ErrorCorrection", name := "findErrorMagnitudes", desc := "(LModulusPoly;LModulusPoly;[I)[I" } : Jvm.MethodName)) ∈ lw_all := lw_g (lw_at lw_m2 64 rfl) rfl
theorem q309 : (Jvm.Cond.code ({ cls := "ErrorCorrection", name := "findErrorMagnitudes", desc := "(LModulusPoly;LModulusPoly;[I)[I" } : Jvm.MethodName) prog_2_method_5_code (13 : Nat) (Option.some (Jvm.ClassFile.FieldType.array Jvm.ClassFile.FieldType.int))) ∈ lw_all := lw_g (lw_at lw_m2 65 rfl) rfl
theorem q310 : (Jvm.Cond.methodLink "ErrorCorrection" (58 : Nat) ({ cls := "ModulusGF", name := "log", desc := "(I)I" } : Jvm.MethodName)) ∈ lw_all := lw_g (lw_at lw_m2 66 rfl) rfl
theorem in_X2 : ∀ w ∈ wsX20, w ∈ lw_all := lw_in wsX20 [34] (by decide +kernel) (by decide +kernel)
end
section

/-! ModulusGF -/
set_option maxRecDepth 100000
def RX3 : String := "ModulusGF"
abbrev cX3_exp : ByteArray := prog_3_method_7_code
def yX3_exp : MethodName := ⟨RX3, "exp", "(I)I"⟩
def dkwX3_exp_0 : List UInt8 := [42, 180, 0, 13, 27, 46, 172]
abbrev dktX3_exp_0 : List UInt8 := dkwX3_exp_0 ++ []
theorem dksX3_exp_0 : cX3_exp.data.toList.drop 0 = dktX3_exp_0 := by decide +kernel
theorem dX3_exp_0 : decode cX3_exp 0 = .ok (.aload_n 0, 1) := dk_42 (dk_at dksX3_exp_0 0 rfl rfl)
theorem dX3_exp_1 : decode cX3_exp 1 = .ok (.getfield 13, 3) := dk_180 0 13 (dk_at dksX3_exp_0 1 rfl rfl)
theorem dX3_exp_4 : decode cX3_exp 4 = .ok (.iload_n 1, 1) := dk_27 (dk_at dksX3_exp_0 4 rfl rfl)
theorem dX3_exp_5 : decode cX3_exp 5 = .ok (.iaload, 1) := dk_46 (dk_at dksX3_exp_0 5 rfl rfl)
theorem dX3_exp_6 : decode cX3_exp 6 = .ok (.ireturn, 1) := dk_172 (dk_at dksX3_exp_0 6 rfl rfl)
abbrev cX3_add : ByteArray := prog_3_method_5_code
def yX3_add : MethodName := ⟨RX3, "add", "(II)I"⟩
def dkwX3_add_0 : List UInt8 := [27, 28, 96, 42, 180, 0, 7, 112, 172]
abbrev dktX3_add_0 : List UInt8 := dkwX3_add_0 ++ []
theorem dksX3_add_0 : cX3_add.data.toList.drop 0 = dktX3_add_0 := by decide +kernel
theorem dX3_add_0 : decode cX3_add 0 = .ok (.iload_n 1, 1) := dk_27 (dk_at dksX3_add_0 0 rfl rfl)
theorem dX3_add_1 : decode cX3_add 1 = .ok (.iload_n 2, 1) := dk_28 (dk_at dksX3_add_0 1 rfl rfl)
theorem dX3_add_2 : decode cX3_add 2 = .ok (.iadd, 1) := dk_96 (dk_at dksX3_add_0 2 rfl rfl)
theorem dX3_add_3 : decode cX3_add 3 = .ok (.aload_n 0, 1) := dk_42 (dk_at dksX3_add_0 3 rfl rfl)
theorem dX3_add_4 : decode cX3_add 4 = .ok (.getfield 7, 3) := dk_180 0 7 (dk_at dksX3_add_0 4 rfl rfl)
theorem dX3_add_7 : decode cX3_add 7 = .ok (.irem, 1) := dk_112 (dk_at dksX3_add_0 7 rfl rfl)
theorem dX3_add_8 : decode cX3_add 8 = .ok (.ireturn, 1) := dk_172 (dk_at dksX3_add_0 8 rfl rfl)
abbrev cX3_multiply : ByteArray := prog_3_method_10_code
def yX3_multiply : MethodName := ⟨RX3, "multiply", "(II)I"⟩
def dkwX3_multiply_1 : List UInt8 := [28, 46, 96, 42, 180, 0, 7, 4, 100, 112, 46, 172]
abbrev dktX3_multiply_1 : List UInt8 := dkwX3_multiply_1 ++ []
def dkwX3_multiply_0 : List UInt8 := [27, 153, 0, 7, 28, 154, 0, 5, 3, 172, 42, 180, 0, 13, 42, 180, 0, 17, 27, 46, 42, 180, 0, 17]
abbrev dktX3_multiply_0 : List UInt8 := dkwX3_multiply_0 ++ dktX3_multiply_1
theorem dksX3_multiply_0 : cX3_multiply.data.toList.drop 0 = dktX3_multiply_0 := by decide +kernel
theorem dksX3_multiply_1 : cX3_multiply.data.toList.drop 24 = dktX3_multiply_1 := dk_seg dksX3_multiply_0 24 rfl rfl
theorem dX3_multiply_0 : decode cX3_multiply 0 = .ok (.iload_n 1, 1) := dk_27 (dk_at dksX3_multiply_0 0 rfl rfl)
theorem dX3_multiply_1 : decode cX3_multiply 1 = .ok (.ifCond .eq 7, 3) := dk_153 0 7 (dk_at dksX3_multiply_0 1 rfl rfl)
theorem dX3_multiply_4 : decode cX3_multiply 4 = .ok (.iload_n 2, 1) := dk_28 (dk_at dksX3_multiply_0 4 rfl rfl)
theorem dX3_multiply_5 : decode cX3_multiply 5 = .ok (.ifCond .ne 5, 3) := dk_154 0 5 (dk_at dksX3_multiply_0 5 rfl rfl)
theorem dX3_multiply_8 : decode cX3_multiply 8 = .ok (.iconst 0, 1) := dk_3 (dk_at dksX3_multiply_0 8 rfl rfl)
theorem dX3_multiply_9 : decode cX3_multiply 9 = .ok (.ireturn, 1) := dk_172 (dk_at dksX3_multiply_0 9 rfl rfl)
theorem dX3_multiply_10 : decode cX3_multiply 10 = .ok (.aload_n 0, 1) := dk_42 (dk_at dksX3_multiply_0 10 rfl rfl)
theorem dX3_multiply_11 : decode cX3_multiply 11 = .ok (.getfield 13, 3) := dk_180 0 13 (dk_at dksX3_multiply_0 11 rfl rfl)
theorem dX3_multiply_14 : decode cX3_multiply 14 = .ok (.aload_n 0, 1) := dk_42 (dk_at dksX3_multiply_0 14 rfl rfl)
theorem dX3_multiply_15 : decode cX3_multiply 15 = .ok (.getfield 17, 3) := dk_180 0 17 (dk_at dksX3_multiply_0 15 rfl rfl)
theorem dX3_multiply_18 : decode cX3_multiply 18 = .ok (.iload_n 1, 1) := dk_27 (dk_at dksX3_multiply_0 18 rfl rfl)
theorem dX3_multiply_19 : decode cX3_multiply 19 = .ok (.iaload, 1) := dk_46 (dk_at dksX3_multiply_0 19 rfl rfl)
theorem dX3_multiply_20 : decode cX3_multiply 20 = .ok (.aload_n 0, 1) := dk_42 (dk_at dksX3_multiply_0 20 rfl rfl)
theorem dX3_multiply_21 : decode cX3_multiply 21 = .ok (.getfield 17, 3) := dk_180 0 17 (dk_at dksX3_multiply_0 21 rfl rfl)
theorem dX3_multiply_24 : decode cX3_multiply 24 = .ok (.iload_n 2, 1) := dk_28 (dk_at dksX3_multiply_1 0 rfl rfl)
theorem dX3_multiply_25 : decode cX3_multiply 25 = .ok (.iaload, 1) := dk_46 (dk_at dksX3_multiply_1 1 rfl rfl)
theorem dX3_multiply_26 : decode cX3_multiply 26 = .ok (.iadd, 1) := dk_96 (dk_at dksX3_multiply_1 2 rfl rfl)
theorem dX3_multiply_27 : decode cX3_multiply 27 = .ok (.aload_n 0, 1) := dk_42 (dk_at dksX3_multiply_1 3 rfl rfl)
theorem dX3_multiply_28 : decode cX3_multiply 28 = .ok (.getfield 7, 3) := dk_180 0 7 (dk_at dksX3_multiply_1 4 rfl rfl)
theorem dX3_multiply_31 : decode cX3_multiply 31 = .ok (.iconst 1, 1) := dk_4 (dk_at dksX3_multiply_1 7 rfl rfl)
theorem dX3_multiply_32 : decode cX3_multiply 32 = .ok (.isub, 1) := dk_100 (dk_at dksX3_multiply_1 8 rfl rfl)
theorem dX3_multiply_33 : decode cX3_multiply 33 = .ok (.irem, 1) := dk_112 (dk_at dksX3_multiply_1 9 rfl rfl)
theorem dX3_multiply_34 : decode cX3_multiply 34 = .ok (.iaload, 1) := dk_46 (dk_at dksX3_multiply_1 10 rfl rfl)
theorem dX3_multiply_35 : decode cX3_multiply 35 = .ok (.ireturn, 1) := dk_172 (dk_at dksX3_multiply_1 11 rfl rfl)
abbrev cX3_getOne : ByteArray := prog_3_method_3_code
def yX3_getOne : MethodName := ⟨RX3, "getOne", "()LModulusPoly;"⟩
theorem dX3_getOne_0 : decode cX3_getOne 0 = .ok (.aload_n 0, 1) := by decide +kernel
theorem dX3_getOne_1 : decode cX3_getOne 1 = .ok (.getfield 29, 3) := by decide +kernel
theorem dX3_getOne_4 : decode cX3_getOne 4 = .ok (.areturn, 1) := by decide +kernel
abbrev cX3_subtract : ByteArray := prog_3_method_6_code
def yX3_subtract : MethodName := ⟨RX3, "subtract", "(II)I"⟩
def dkwX3_subtract_0 : List UInt8 := [42, 180, 0, 7, 27, 96, 28, 100, 42, 180, 0, 7, 112, 172]
abbrev dktX3_subtract_0 : List UInt8 := dkwX3_subtract_0 ++ []
theorem dksX3_subtract_0 : cX3_subtract.data.toList.drop 0 = dktX3_subtract_0 := by decide +kernel
theorem dX3_subtract_0 : decode cX3_subtract 0 = .ok (.aload_n 0, 1) := dk_42 (dk_at dksX3_subtract_0 0 rfl rfl)
theorem dX3_subtract_1 : decode cX3_subtract 1 = .ok (.getfield 7, 3) := dk_180 0 7 (dk_at dksX3_subtract_0 1 rfl rfl)
theorem dX3_subtract_4 : decode cX3_subtract 4 = .ok (.iload_n 1, 1) := dk_27 (dk_at dksX3_subtract_0 4 rfl rfl)
theorem dX3_subtract_5 : decode cX3_subtract 5 = .ok (.iadd, 1) := dk_96 (dk_at dksX3_subtract_0 5 rfl rfl)
theorem dX3_subtract_6 : decode cX3_subtract 6 = .ok (.iload_n 2, 1) := dk_28 (dk_at dksX3_subtract_0 6 rfl rfl)
theorem dX3_subtract_7 : decode cX3_subtract 7 = .ok (.isub, 1) := dk_100 (dk_at dksX3_subtract_0 7 rfl rfl)
theorem dX3_subtract_8 : decode cX3_subtract 8 = .ok (.aload_n 0, 1) := dk_42 (dk_at dksX3_subtract_0 8 rfl rfl)
theorem dX3_subtract_9 : decode cX3_subtract 9 = .ok (.getfield 7, 3) := dk_180 0 7 (dk_at dksX3_subtract_0 9 rfl rfl)
theorem dX3_subtract_12 : decode cX3_subtract 12 = .ok (.irem, 1) := dk_112 (dk_at dksX3_subtract_0 12 rfl rfl)
theorem dX3_subtract_13 : decode cX3_subtract 13 = .ok (.ireturn, 1) := dk_172 (dk_at dksX3_subtract_0 13 rfl rfl)
abbrev cX3_getZero : ByteArray := prog_3_method_2_code
def yX3_getZero : MethodName := ⟨RX3, "getZero", "()LModulusPoly;"⟩
theorem dX3_getZero_0 : decode cX3_getZero 0 = .ok (.aload_n 0, 1) := by decide +kernel
theorem dX3_getZero_1 : decode cX3_getZero 1 = .ok (.getfield 25, 3) := by decide +kernel
theorem dX3_getZero_4 : decode cX3_getZero 4 = .ok (.areturn, 1) := by decide +kernel
abbrev cX3_buildMonomial : ByteArray := prog_3_method_4_code
def yX3_buildMonomial : MethodName := ⟨RX3, "buildMonomial", "(II)LModulusPoly;"⟩
def dkwX3_buildMonomial_1 : List UInt8 := [188, 10, 78, 45, 3, 28, 79, 187, 0, 20, 89, 42, 45, 183, 0, 22, 176]
abbrev dktX3_buildMonomial_1 : List UInt8 := dkwX3_buildMonomial_1 ++ []
def dkwX3_buildMonomial_0 : List UInt8 := [27, 156, 0, 11, 187, 0, 32, 89, 183, 0, 34, 191, 28, 154, 0, 8, 42, 180, 0, 25, 176, 27, 4, 96]
abbrev dktX3_buildMonomial_0 : List UInt8 := dkwX3_buildMonomial_0 ++ dktX3_buildMonomial_1
theorem dksX3_buildMonomial_0 : cX3_buildMonomial.data.toList.drop 0 = dktX3_buildMonomial_0 := by decide +kernel
theorem dksX3_buildMonomial_1 : cX3_buildMonomial.data.toList.drop 24 = dktX3_buildMonomial_1 := dk_seg dksX3_buildMonomial_0 24 rfl rfl
theorem dX3_buildMonomial_0 : decode cX3_buildMonomial 0 = .ok (.iload_n 1, 1) := dk_27 (dk_at dksX3_buildMonomial_0 0 rfl rfl)
theorem dX3_buildMonomial_1 : decode cX3_buildMonomial 1 = .ok (.ifCond .ge 11, 3) := dk_156 0 11 (dk_at dksX3_buildMonomial_0 1 rfl rfl)
theorem dX3_buildMonomial_4 : decode cX3_buildMonomial 4 = .ok (.new 32, 3) := dk_187 0 32 (dk_at dksX3_buildMonomial_0 4 rfl rfl)
theorem dX3_buildMonomial_7 : decode cX3_buildMonomial 7 = .ok (.dup, 1) := dk_89 (dk_at dksX3_buildMonomial_0 7 rfl rfl)
theorem dX3_buildMonomial_8 : decode cX3_buildMonomial 8 = .ok (.invokespecial 34, 3) := dk_183 0 34 (dk_at dksX3_buildMonomial_0 8 rfl rfl)
theorem dX3_buildMonomial_11 : decode cX3_buildMonomial 11 = .ok (.athrow, 1) := dk_191 (dk_at dksX3_buildMonomial_0 11 rfl rfl)
theorem dX3_buildMonomial_12 : decode cX3_buildMonomial 12 = .ok (.iload_n 2, 1) := dk_28 (dk_at dksX3_buildMonomial_0 12 rfl rfl)
theorem dX3_buildMonomial_13 : decode cX3_buildMonomial 13 = .ok (.ifCond .ne 8, 3) := dk_154 0 8 (dk_at dksX3_buildMonomial_0 13 rfl rfl)
theorem dX3_buildMonomial_16 : decode cX3_buildMonomial 16 = .ok (.aload_n 0, 1) := dk_42 (dk_at dksX3_buildMonomial_0 16 rfl rfl)
theorem dX3_buildMonomial_17 : decode cX3_buildMonomial 17 = .ok (.getfield 25, 3) := dk_180 0 25 (dk_at dksX3_buildMonomial_0 17 rfl rfl)
theorem dX3_buildMonomial_20 : decode cX3_buildMonomial 20 = .ok (.areturn, 1) := dk_176 (dk_at dksX3_buildMonomial_0 20 rfl rfl)
theorem dX3_buildMonomial_21 : decode cX3_buildMonomial 21 = .ok (.iload_n 1, 1) := dk_27 (dk_at dksX3_buildMonomial_0 21 rfl rfl)
theorem dX3_buildMonomial_22 : decode cX3_buildMonomial 22 = .ok (.iconst 1, 1) := dk_4 (dk_at dksX3_buildMonomial_0 22 rfl rfl)
theorem dX3_buildMonomial_23 : decode cX3_buildMonomial 23 = .ok (.iadd, 1) := dk_96 (dk_at dksX3_buildMonomial_0 23 rfl rfl)
theorem dX3_buildMonomial_24 : decode cX3_buildMonomial 24 = .ok (.newarray .int, 2) := dk_188_10 (dk_at dksX3_buildMonomial_1 0 rfl rfl)
theorem dX3_buildMonomial_26 : decode cX3_buildMonomial 26 = .ok (.astore_n 3, 1) := dk_78 (dk_at dksX3_buildMonomial_1 2 rfl rfl)
theorem dX3_buildMonomial_27 : decode cX3_buildMonomial 27 = .ok (.aload_n 3, 1) := dk_45 (dk_at dksX3_buildMonomial_1 3 rfl rfl)
theorem dX3_buildMonomial_28 : decode cX3_buildMonomial 28 = .ok (.iconst 0, 1) := dk_3 (dk_at dksX3_buildMonomial_1 4 rfl rfl)
theorem dX3_buildMonomial_29 : decode cX3_buildMonomial 29 = .ok (.iload_n 2, 1) := dk_28 (dk_at dksX3_buildMonomial_1 5 rfl rfl)
theorem dX3_buildMonomial_30 : decode cX3_buildMonomial 30 = .ok (.iastore, 1) := dk_79 (dk_at dksX3_buildMonomial_1 6 rfl rfl)
theorem dX3_buildMonomial_31 : decode cX3_buildMonomial 31 = .ok (.new 20, 3) := dk_187 0 20 (dk_at dksX3_buildMonomial_1 7 rfl rfl)
theorem dX3_buildMonomial_34 : decode cX3_buildMonomial 34 = .ok (.dup, 1) := dk_89 (dk_at dksX3_buildMonomial_1 10 rfl rfl)
theorem dX3_buildMonomial_35 : decode cX3_buildMonomial 35 = .ok (.aload_n 0, 1) := dk_42 (dk_at dksX3_buildMonomial_1 11 rfl rfl)
theorem dX3_buildMonomial_36 : decode cX3_buildMonomial 36 = .ok (.aload_n 3, 1) := dk_45 (dk_at dksX3_buildMonomial_1 12 rfl rfl)
theorem dX3_buildMonomial_37 : decode cX3_buildMonomial 37 = .ok (.invokespecial 22, 3) := dk_183 0 22 (dk_at dksX3_buildMonomial_1 13 rfl rfl)
theorem dX3_buildMonomial_40 : decode cX3_buildMonomial 40 = .ok (.areturn, 1) := dk_176 (dk_at dksX3_buildMonomial_1 16 rfl rfl)
abbrev cX3_inverse : ByteArray := prog_3_method_9_code
def yX3_inverse : MethodName := ⟨RX3, "inverse", "(I)I"⟩
def dkwX3_inverse_1 : List UInt8 := [27, 46, 100, 4, 100, 46, 172]
abbrev dktX3_inverse_1 : List UInt8 := dkwX3_inverse_1 ++ []
def dkwX3_inverse_0 : List UInt8 := [27, 154, 0, 11, 187, 0, 35, 89, 183, 0, 37, 191, 42, 180, 0, 13, 42, 180, 0, 7, 42, 180, 0, 17]
abbrev dktX3_inverse_0 : List UInt8 := dkwX3_inverse_0 ++ dktX3_inverse_1
theorem dksX3_inverse_0 : cX3_inverse.data.toList.drop 0 = dktX3_inverse_0 := by decide +kernel
theorem dksX3_inverse_1 : cX3_inverse.data.toList.drop 24 = dktX3_inverse_1 := dk_seg dksX3_inverse_0 24 rfl rfl
theorem dX3_inverse_0 : decode cX3_inverse 0 = .ok (.iload_n 1, 1) := dk_27 (dk_at dksX3_inverse_0 0 rfl rfl)
theorem dX3_inverse_1 : decode cX3_inverse 1 = .ok (.ifCond .ne 11, 3) := dk_154 0 11 (dk_at dksX3_inverse_0 1 rfl rfl)
theorem dX3_inverse_4 : decode cX3_inverse 4 = .ok (.new 35, 3) := dk_187 0 35 (dk_at dksX3_inverse_0 4 rfl rfl)
theorem dX3_inverse_7 : decode cX3_inverse 7 = .ok (.dup, 1) := dk_89 (dk_at dksX3_inverse_0 7 rfl rfl)
theorem dX3_inverse_8 : decode cX3_inverse 8 = .ok (.invokespecial 37, 3) := dk_183 0 37 (dk_at dksX3_inverse_0 8 rfl rfl)
theorem dX3_inverse_11 : decode cX3_inverse 11 = .ok (.athrow, 1) := dk_191 (dk_at dksX3_inverse_0 11 rfl rfl)
theorem dX3_inverse_12 : decode cX3_inverse 12 = .ok (.aload_n 0, 1) := dk_42 (dk_at dksX3_inverse_0 12 rfl rfl)
theorem dX3_inverse_13 : decode cX3_inverse 13 = .ok (.getfield 13, 3) := dk_180 0 13 (dk_at dksX3_inverse_0 13 rfl rfl)
theorem dX3_inverse_16 : decode cX3_inverse 16 = .ok (.aload_n 0, 1) := dk_42 (dk_at dksX3_inverse_0 16 rfl rfl)
theorem dX3_inverse_17 : decode cX3_inverse 17 = .ok (.getfield 7, 3) := dk_180 0 7 (dk_at dksX3_inverse_0 17 rfl rfl)
theorem dX3_inverse_20 : decode cX3_inverse 20 = .ok (.aload_n 0, 1) := dk_42 (dk_at dksX3_inverse_0 20 rfl rfl)
theorem dX3_inverse_21 : decode cX3_inverse 21 = .ok (.getfield 17, 3) := dk_180 0 17 (dk_at dksX3_inverse_0 21 rfl rfl)
theorem dX3_inverse_24 : decode cX3_inverse 24 = .ok (.iload_n 1, 1) := dk_27 (dk_at dksX3_inverse_1 0 rfl rfl)
theorem dX3_inverse_25 : decode cX3_inverse 25 = .ok (.iaload, 1) := dk_46 (dk_at dksX3_inverse_1 1 rfl rfl)
theorem dX3_inverse_26 : decode cX3_inverse 26 = .ok (.isub, 1) := dk_100 (dk_at dksX3_inverse_1 2 rfl rfl)
theorem dX3_inverse_27 : decode cX3_inverse 27 = .ok (.iconst 1, 1) := dk_4 (dk_at dksX3_inverse_1 3 rfl rfl)
theorem dX3_inverse_28 : decode cX3_inverse 28 = .ok (.isub, 1) := dk_100 (dk_at dksX3_inverse_1 4 rfl rfl)
theorem dX3_inverse_29 : decode cX3_inverse 29 = .ok (.iaload, 1) := dk_46 (dk_at dksX3_inverse_1 5 rfl rfl)
theorem dX3_inverse_30 : decode cX3_inverse 30 = .ok (.ireturn, 1) := dk_172 (dk_at dksX3_inverse_1 6 rfl rfl)
abbrev cX3_getSize : ByteArray := prog_3_method_11_code
def yX3_getSize : MethodName := ⟨RX3, "getSize", "()I"⟩
theorem dX3_getSize_0 : decode cX3_getSize 0 = .ok (.aload_n 0, 1) := by decide +kernel
theorem dX3_getSize_1 : decode cX3_getSize 1 = .ok (.getfield 7, 3) := by decide +kernel
theorem dX3_getSize_4 : decode cX3_getSize 4 = .ok (.ireturn, 1) := by decide +kernel
abbrev cX3_log : ByteArray := prog_3_method_8_code
def yX3_log : MethodName := ⟨RX3, "log", "(I)I"⟩
def dkwX3_log_0 : List UInt8 := [27, 154, 0, 11, 187, 0, 32, 89, 183, 0, 34, 191, 42, 180, 0, 17, 27, 46, 172]
abbrev dktX3_log_0 : List UInt8 := dkwX3_log_0 ++ []
theorem dksX3_log_0 : cX3_log.data.toList.drop 0 = dktX3_log_0 := by decide +kernel
theorem dX3_log_0 : decode cX3_log 0 = .ok (.iload_n 1, 1) := dk_27 (dk_at dksX3_log_0 0 rfl rfl)
theorem dX3_log_1 : decode cX3_log 1 = .ok (.ifCond .ne 11, 3) := dk_154 0 11 (dk_at dksX3_log_0 1 rfl rfl)
theorem dX3_log_4 : decode cX3_log 4 = .ok (.new 32, 3) := dk_187 0 32 (dk_at dksX3_log_0 4 rfl rfl)
theorem dX3_log_7 : decode cX3_log 7 = .ok (.dup, 1) := dk_89 (dk_at dksX3_log_0 7 rfl rfl)
theorem dX3_log_8 : decode cX3_log 8 = .ok (.invokespecial 34, 3) := dk_183 0 34 (dk_at dksX3_log_0 8 rfl rfl)
theorem dX3_log_11 : decode cX3_log 11 = .ok (.athrow, 1) := dk_191 (dk_at dksX3_log_0 11 rfl rfl)
theorem dX3_log_12 : decode cX3_log 12 = .ok (.aload_n 0, 1) := dk_42 (dk_at dksX3_log_0 12 rfl rfl)
theorem dX3_log_13 : decode cX3_log 13 = .ok (.getfield 17, 3) := dk_180 0 17 (dk_at dksX3_log_0 13 rfl rfl)
theorem dX3_log_16 : decode cX3_log 16 = .ok (.iload_n 1, 1) := dk_27 (dk_at dksX3_log_0 16 rfl rfl)
theorem dX3_log_17 : decode cX3_log 17 = .ok (.iaload, 1) := dk_46 (dk_at dksX3_log_0 17 rfl rfl)
theorem dX3_log_18 : decode cX3_log 18 = .ok (.ireturn, 1) := dk_172 (dk_at dksX3_log_0 18 rfl rfl)
theorem q7 : (Jvm.Cond.initialized "ModulusGF") ∈ lw_all := lw_g (lw_at lw_m1 3 rfl) rfl
theorem q32 : (Jvm.Cond.laysStatic "ModulusGF" "PDF417_GF" "LModulusGF;") ∈ lw_tbl := lw_at lw_m1 28 rfl
theorem q175 : (Jvm.Cond.instanceMethod ({ cls := "ModulusGF", name := "exp", desc := "(I)I" } : Jvm.MethodName)) ∈ lw_all := lw_g (lw_at lw_m1 171 rfl) rfl
theorem q176 : (Jvm.Cond.selects "ModulusGF" ({ cls := "ModulusGF", name := "exp", desc := "(I)I" } : Jvm.MethodName) ({ cls := "ModulusGF", name := "exp", desc := "(I)I" } : Jvm.MethodName)) ∈ lw_all := lw_g (lw_at lw_m1 172 rfl) rfl
theorem q177 : (Jvm.Cond.code ({ cls := "ModulusGF", name := "exp", desc := "(I)I" } : Jvm.MethodName) prog_3_method_7_code (2 : Nat) (Option.some Jvm.ClassFile.FieldType.int)) ∈ lw_all := lw_g (lw_at lw_m1 173 rfl) rfl
theorem q187 : (Jvm.Cond.instanceMethod ({ cls := "ModulusGF", name := "add", desc := "(II)I" } : Jvm.MethodName)) ∈ lw_all := lw_g (lw_at lw_m1 183 rfl) rfl
theorem q188 : (Jvm.Cond.selects "ModulusGF" ({ cls := "ModulusGF", name := "add", desc := "(II)I" } : Jvm.MethodName) ({ cls := "ModulusGF", name := "add", desc := "(II)I" } : Jvm.MethodName)) ∈ lw_all := lw_g (lw_at lw_m1 184 rfl) rfl
theorem q189 : (Jvm.Cond.code ({ cls := "ModulusGF", name := "add", desc := "(II)I" } : Jvm.MethodName) prog_3_method_5_code (3 : Nat) (Option.some Jvm.ClassFile.FieldType.int)) ∈ lw_all := lw_g (lw_at lw_m1 185 rfl) rfl
theorem q191 : (Jvm.Cond.instanceMethod ({ cls := "ModulusGF", name := "multiply", desc := "(II)I" } : Jvm.MethodName)) ∈ lw_all := lw_g (lw_at lw_m1 187 rfl) rfl
theorem q192 : (Jvm.Cond.selects "ModulusGF" ({ cls := "ModulusGF", name := "multiply", desc := "(II)I" } : Jvm.MethodName) ({ cls := "ModulusGF", name := "multiply", desc := "(II)I" } : Jvm.MethodName)) ∈ lw_all := lw_g (lw_at lw_m1 188 rfl) rfl
theorem q193 : (Jvm.Cond.code ({ cls := "ModulusGF", name := "multiply", desc := "(II)I" } : Jvm.MethodName) prog_3_method_10_code (3 : Nat) (Option.some Jvm.ClassFile.FieldType.int)) ∈ lw_all := lw_g (lw_at lw_m1 189 rfl) rfl
theorem q195 : (Jvm.Cond.instanceMethod ({ cls := "ModulusGF", name := "getOne", desc := "()LModulusPoly;" } : Jvm.MethodName)) ∈ lw_all := lw_g (lw_at lw_m1 191 rfl) rfl
theorem q196 : (Jvm.Cond.selects "ModulusGF" ({ cls := "ModulusGF", name := "getOne", desc := "()LModulusPoly;" } : Jvm.MethodName) ({ cls := "ModulusGF", name := "getOne", desc := "()LModulusPoly;" } : Jvm.MethodName)) ∈ lw_all := lw_g (lw_at lw_m1 192 rfl) rfl
theorem q197 : (Jvm.Cond.code ({ cls := "ModulusGF", name := "getOne", desc := "()LModulusPoly;" } : Jvm.MethodName) prog_3_method_3_code (1 : Nat) (Option.some (Jvm.ClassFile.FieldType.object "ModulusPoly"))) ∈ lw_all := lw_g (lw_at lw_m1 193 rfl) rfl
theorem q199 : (Jvm.Cond.instanceMethod ({ cls := "ModulusGF", name := "subtract", desc := "(II)I" } : Jvm.MethodName)) ∈ lw_all := lw_g (lw_at lw_m1 195 rfl) rfl
theorem q200 : (Jvm.Cond.selects "ModulusGF" ({ cls := "ModulusGF", name := "subtract", desc := "(II)I" } : Jvm.MethodName) ({ cls := "ModulusGF", name := "subtract", desc := "(II)I" } : Jvm.MethodName)) ∈ lw_all := lw_g (lw_at lw_m1 196 rfl) rfl
theorem q201 : (Jvm.Cond.code ({ cls := "ModulusGF", name := "subtract", desc := "(II)I" } : Jvm.MethodName) prog_3_method_6_code (3 : Nat) (Option.some Jvm.ClassFile.FieldType.int)) ∈ lw_all := lw_g (lw_at lw_m1 197 rfl) rfl
theorem q224 : (Jvm.Cond.instanceMethod ({ cls := "ModulusGF", name := "getZero", desc := "()LModulusPoly;" } : Jvm.MethodName)) ∈ lw_all := lw_g (lw_at lw_m1 220 rfl) rfl
theorem q225 : (Jvm.Cond.selects "ModulusGF" ({ cls := "ModulusGF", name := "getZero", desc := "()LModulusPoly;" } : Jvm.MethodName) ({ cls := "ModulusGF", name := "getZero", desc := "()LModulusPoly;" } : Jvm.MethodName)) ∈ lw_all := lw_g (lw_at lw_m1 221 rfl) rfl
theorem q226 : (Jvm.Cond.code ({ cls := "ModulusGF", name := "getZero", desc := "()LModulusPoly;" } : Jvm.MethodName) prog_3_method_2_code (1 : Nat) (Option.some (Jvm.ClassFile.FieldType.object "ModulusPoly"))) ∈ lw_all := lw_g (lw_at lw_m1 222 rfl) rfl
theorem q230 : (Jvm.Cond.instanceMethod ({ cls := "ModulusGF", name := "buildMonomial", desc := "(II)LModulusPoly;" } : Jvm.MethodName)) ∈ lw_all := lw_g (lw_at lw_m1 226 rfl) rfl
theorem q231 : (Jvm.Cond.selects "ModulusGF" ({ cls := "ModulusGF", name := "buildMonomial", desc := "(II)LModulusPoly;" } : Jvm.MethodName) ({ cls := "ModulusGF", name := "buildMonomial", desc := "(II)LModulusPoly;" } : Jvm.MethodName)) ∈ lw_all := lw_g (lw_at lw_m1 227 rfl) rfl
theorem q232 : (Jvm.Cond.code ({ cls := "ModulusGF", name := "buildMonomial", desc := "(II)LModulusPoly;" } : Jvm.MethodName) prog_3_method_4_code (4 : Nat) (Option.some (Jvm.ClassFile.FieldType.object "ModulusPoly"))) ∈ lw_all := lw_g (lw_at lw_m1 228 rfl) rfl
theorem q233 : (Jvm.Cond.classLink "ModulusGF" (32 : Nat) "java/lang/IllegalArgumentException") ∈ lw_all := lw_g (lw_at lw_m1 229 rfl) rfl
theorem q234 : (Jvm.Cond.methodLink "ModulusGF" (34 : Nat) ({ cls := "java/lang/IllegalArgumentException", name := "<init>", desc := "()V" } : Jvm.MethodName)) ∈ lw_all := lw_g (lw_at lw_m1 230 rfl) rfl
theorem q235 : (Jvm.Cond.classLink "ModulusGF" (20 : Nat) "ModulusPoly") ∈ lw_all := lw_g (lw_at lw_m1 231 rfl) rfl
theorem q236 : (Jvm.Cond.methodLink "ModulusGF" (22 : Nat) ({ cls := "ModulusPoly", name := "<init>", desc := "(LModulusGF;[I)V" } : Jvm.MethodName)) ∈ lw_all := lw_g (lw_at lw_m1 232 rfl) rfl
theorem q254 : (Jvm.Cond.instanceMethod ({ cls := "ModulusGF", name := "inverse", desc := "(I)I" } : Jvm.MethodName)) ∈ lw_all := lw_g (lw_at lw_m2 10 rfl) rfl
theorem q255 : (Jvm.Cond.selects "ModulusGF" ({ cls := "ModulusGF", name := "inverse", desc := "(I)I" } : Jvm.MethodName) ({ cls := "ModulusGF", name := "inverse", desc := "(I)I" } : Jvm.MethodName)) ∈ lw_all := lw_g (lw_at lw_m2 11 rfl) rfl
theorem q256 : (Jvm.Cond.code ({ cls := "ModulusGF", name := "inverse", desc := "(I)I" } : Jvm.MethodName) prog_3_method_9_code (2 : Nat) (Option.some Jvm.ClassFile.FieldType.int)) ∈ lw_all := lw_g (lw_at lw_m2 12 rfl) rfl
theorem q257 : (Jvm.Cond.classLink "ModulusGF" (35 : Nat) "java/lang/ArithmeticException") ∈ lw_all := lw_g (lw_at lw_m2 13 rfl) rfl
theorem q266 : (Jvm.Cond.methodLink "ModulusGF" (37 : Nat) ({ cls := "java/lang/ArithmeticException", name := "<init>", desc := "()V" } : Jvm.MethodName)) ∈ lw_all := lw_g (lw_at lw_m2 22 rfl) rfl
theorem q303 : (Jvm.Cond.instanceMethod ({ cls := "ModulusGF", name := "getSize", desc := "()I" } : Jvm.MethodName)) ∈ lw_all := lw_g (lw_at lw_m2 59 rfl) rfl
theorem q304 : (Jvm.Cond.selects "ModulusGF" ({ cls := "ModulusGF", name := "getSize", desc := "()I" } : Jvm.MethodName) ({ cls := "ModulusGF", name := "getSize", desc := "()I" } : Jvm.MethodName)) ∈ lw_all := lw_g (lw_at lw_m2 60 rfl) rfl
theorem q305 : (Jvm.Cond.code ({ cls := "ModulusGF", name := "getSize", desc := "()I" } : Jvm.MethodName) prog_3_method_11_code (1 : Nat) (Option.some Jvm.ClassFile.FieldType.int)) ∈ lw_all := lw_g (lw_at lw_m2 61 rfl) rfl
theorem q311 : (Jvm.Cond.instanceMethod ({ cls := "ModulusGF", name := "log", desc := "(I)I" } : Jvm.MethodName)) ∈ lw_all := lw_g (lw_at lw_m2 67 rfl) rfl
theorem q312 : (Jvm.Cond.selects "ModulusGF" ({ cls := "ModulusGF", name := "log", desc := "(I)I" } : Jvm.MethodName) ({ cls := "ModulusGF", name := "log", desc := "(I)I" } : Jvm.MethodName)) ∈ lw_all := lw_g (lw_at lw_m2 68 rfl) rfl
theorem q313 : (Jvm.Cond.code ({ cls := "ModulusGF", name := "log", desc := "(I)I" } : Jvm.MethodName) prog_3_method_8_code (2 : Nat) (Option.some Jvm.ClassFile.FieldType.int)) ∈ lw_all := lw_g (lw_at lw_m2 69 rfl) rfl
theorem q319 : (Jvm.Cond.fieldLink "ModulusGF" (13 : Nat) "ModulusGF" "expTable" "[I") ∈ lw_all := lw_g (lw_at lw_m2 75 rfl) rfl
theorem q320 : (Jvm.Cond.fieldLink "ModulusGF" (7 : Nat) "ModulusGF" "modulus" "I") ∈ lw_all := lw_g (lw_at lw_m2 76 rfl) rfl
theorem q321 : (Jvm.Cond.fieldLink "ModulusGF" (17 : Nat) "ModulusGF" "logTable" "[I") ∈ lw_all := lw_g (lw_at lw_m2 77 rfl) rfl
theorem q322 : (Jvm.Cond.fieldLink "ModulusGF" (29 : Nat) "ModulusGF" "one" "LModulusPoly;") ∈ lw_all := lw_g (lw_at lw_m2 78 rfl) rfl
theorem q323 : (Jvm.Cond.fieldLink "ModulusGF" (25 : Nat) "ModulusGF" "zero" "LModulusPoly;") ∈ lw_all := lw_g (lw_at lw_m2 79 rfl) rfl

/-! ModulusPoly -/
set_option maxRecDepth 100000
def RX4 : String := "ModulusPoly"
def TX4 : u_T := fun k => match k with
  | 0 => ("ModulusPoly", "field", "LModulusGF;", true)
  | _ => ("ModulusPoly", "coefficients", "[I", true)
def tyX4 : Nat → FieldType := fun k => match k with
  | 0 => .object "ModulusGF"
  | _ => .array .int
abbrev wsX40 : List Cond := u_ws RX4 TX4 2
theorem nmX4 : ∀ a, a < 2 → ∀ b, b < 2 → a ≠ b → (TX4 a).2.1 ≠ (TX4 b).2.1 := by decide +kernel
theorem tyX4_ok : ∀ k, k < 2 → parseFieldDescriptor (TX4 k).2.2.1 = some (tyX4 k) := by decide +kernel
abbrev cX4_init : ByteArray := prog_4_method_1_code
def yX4_init : MethodName := ⟨RX4, "<init>", "(LModulusGF;[I)V"⟩
def dkwX4_init_4 : List UInt8 := [42, 180, 0, 16, 190, 184, 0, 20, 167, 0, 8, 42, 44, 181, 0, 16, 177]
abbrev dktX4_init_4 : List UInt8 := dkwX4_init_4 ++ []
def dkwX4_init_3 : List UInt8 := [181, 0, 16, 167, 0, 29, 42, 29, 21, 4, 100, 188, 10, 181, 0, 16, 44, 21, 4, 42, 180, 0, 16, 3]
abbrev dktX4_init_3 : List UInt8 := dkwX4_init_3 ++ dktX4_init_4
def dkwX4_init_2 : List UInt8 := [46, 154, 0, 9, 132, 4, 1, 167, 255, 240, 21, 4, 29, 160, 0, 17, 42, 4, 188, 10, 89, 3, 3, 79]
abbrev dktX4_init_2 : List UInt8 := dkwX4_init_2 ++ dktX4_init_3
def dkwX4_init_1 : List UInt8 := [62, 29, 4, 164, 0, 80, 44, 3, 46, 154, 0, 74, 4, 54, 4, 21, 4, 29, 162, 0, 16, 44, 21, 4]
abbrev dktX4_init_1 : List UInt8 := dkwX4_init_1 ++ dktX4_init_2
def dkwX4_init_0 : List UInt8 := [42, 183, 0, 1, 44, 190, 154, 0, 11, 187, 0, 7, 89, 183, 0, 9, 191, 42, 43, 181, 0, 10, 44, 190]
abbrev dktX4_init_0 : List UInt8 := dkwX4_init_0 ++ dktX4_init_1
theorem dksX4_init_0 : cX4_init.data.toList.drop 0 = dktX4_init_0 := by decide +kernel
theorem dksX4_init_1 : cX4_init.data.toList.drop 24 = dktX4_init_1 := dk_seg dksX4_init_0 24 rfl rfl
theorem dksX4_init_2 : cX4_init.data.toList.drop 48 = dktX4_init_2 := dk_seg dksX4_init_1 24 rfl rfl
theorem dksX4_init_3 : cX4_init.data.toList.drop 72 = dktX4_init_3 := dk_seg dksX4_init_2 24 rfl rfl
theorem dksX4_init_4 : cX4_init.data.toList.drop 96 = dktX4_init_4 := dk_seg dksX4_init_3 24 rfl rfl
theorem dX4_init_0 : decode cX4_init 0 = .ok (.aload_n 0, 1) := dk_42 (dk_at dksX4_init_0 0 rfl rfl)
theorem dX4_init_1 : decode cX4_init 1 = .ok (.invokespecial 1, 3) := dk_183 0 1 (dk_at dksX4_init_0 1 rfl rfl)
theorem dX4_init_4 : decode cX4_init 4 = .ok (.aload_n 2, 1) := dk_44 (dk_at dksX4_init_0 4 rfl rfl)
theorem dX4_init_5 : decode cX4_init 5 = .ok (.arraylength, 1) := dk_190 (dk_at dksX4_init_0 5 rfl rfl)
theorem dX4_init_6 : decode cX4_init 6 = .ok (.ifCond .ne 11, 3) := dk_154 0 11 (dk_at dksX4_init_0 6 rfl rfl)
theorem dX4_init_9 : decode cX4_init 9 = .ok (.new 7, 3) := dk_187 0 7 (dk_at dksX4_init_0 9 rfl rfl)
theorem dX4_init_12 : decode cX4_init 12 = .ok (.dup, 1) := dk_89 (dk_at dksX4_init_0 12 rfl rfl)
theorem dX4_init_13 : decode cX4_init 13 = .ok (.invokespecial 9, 3) := dk_183 0 9 (dk_at dksX4_init_0 13 rfl rfl)
theorem dX4_init_16 : decode cX4_init 16 = .ok (.athrow, 1) := dk_191 (dk_at dksX4_init_0 16 rfl rfl)
theorem dX4_init_17 : decode cX4_init 17 = .ok (.aload_n 0, 1) := dk_42 (dk_at dksX4_init_0 17 rfl rfl)
theorem dX4_init_18 : decode cX4_init 18 = .ok (.aload_n 1, 1) := dk_43 (dk_at dksX4_init_0 18 rfl rfl)
theorem dX4_init_19 : decode cX4_init 19 = .ok (.putfield 10, 3) := dk_181 0 10 (dk_at dksX4_init_0 19 rfl rfl)
theorem dX4_init_22 : decode cX4_init 22 = .ok (.aload_n 2, 1) := dk_44 (dk_at dksX4_init_0 22 rfl rfl)
theorem dX4_init_23 : decode cX4_init 23 = .ok (.arraylength, 1) := dk_190 (dk_at dksX4_init_0 23 rfl rfl)
theorem dX4_init_24 : decode cX4_init 24 = .ok (.istore_n 3, 1) := dk_62 (dk_at dksX4_init_1 0 rfl rfl)
theorem dX4_init_25 : decode cX4_init 25 = .ok (.iload_n 3, 1) := dk_29 (dk_at dksX4_init_1 1 rfl rfl)
theorem dX4_init_26 : decode cX4_init 26 = .ok (.iconst 1, 1) := dk_4 (dk_at dksX4_init_1 2 rfl rfl)
theorem dX4_init_27 : decode cX4_init 27 = .ok (.if_icmp .le 80, 3) := dk_164 0 80 (dk_at dksX4_init_1 3 rfl rfl)
theorem dX4_init_30 : decode cX4_init 30 = .ok (.aload_n 2, 1) := dk_44 (dk_at dksX4_init_1 6 rfl rfl)
theorem dX4_init_31 : decode cX4_init 31 = .ok (.iconst 0, 1) := dk_3 (dk_at dksX4_init_1 7 rfl rfl)
theorem dX4_init_32 : decode cX4_init 32 = .ok (.iaload, 1) := dk_46 (dk_at dksX4_init_1 8 rfl rfl)
theorem dX4_init_33 : decode cX4_init 33 = .ok (.ifCond .ne 74, 3) := dk_154 0 74 (dk_at dksX4_init_1 9 rfl rfl)
theorem dX4_init_36 : decode cX4_init 36 = .ok (.iconst 1, 1) := dk_4 (dk_at dksX4_init_1 12 rfl rfl)
theorem dX4_init_37 : decode cX4_init 37 = .ok (.istore 4, 2) := dk_54 4 (dk_at dksX4_init_1 13 rfl rfl)
theorem dX4_init_39 : decode cX4_init 39 = .ok (.iload 4, 2) := dk_21 4 (dk_at dksX4_init_1 15 rfl rfl)
theorem dX4_init_41 : decode cX4_init 41 = .ok (.iload_n 3, 1) := dk_29 (dk_at dksX4_init_1 17 rfl rfl)
theorem dX4_init_42 : decode cX4_init 42 = .ok (.if_icmp .ge 16, 3) := dk_162 0 16 (dk_at dksX4_init_1 18 rfl rfl)
theorem dX4_init_45 : decode cX4_init 45 = .ok (.aload_n 2, 1) := dk_44 (dk_at dksX4_init_1 21 rfl rfl)
theorem dX4_init_46 : decode cX4_init 46 = .ok (.iload 4, 2) := dk_21 4 (dk_at dksX4_init_1 22 rfl rfl)
theorem dX4_init_48 : decode cX4_init 48 = .ok (.iaload, 1) := dk_46 (dk_at dksX4_init_2 0 rfl rfl)
theorem dX4_init_49 : decode cX4_init 49 = .ok (.ifCond .ne 9, 3) := dk_154 0 9 (dk_at dksX4_init_2 1 rfl rfl)
theorem dX4_init_52 : decode cX4_init 52 = .ok (.iinc 4 1, 3) := dk_132 4 1 (dk_at dksX4_init_2 4 rfl rfl)
theorem dX4_init_55 : decode cX4_init 55 = .ok (.goto (-16), 3) := dk_167 255 240 (dk_at dksX4_init_2 7 rfl rfl)
theorem dX4_init_58 : decode cX4_init 58 = .ok (.iload 4, 2) := dk_21 4 (dk_at dksX4_init_2 10 rfl rfl)
theorem dX4_init_60 : decode cX4_init 60 = .ok (.iload_n 3, 1) := dk_29 (dk_at dksX4_init_2 12 rfl rfl)
theorem dX4_init_61 : decode cX4_init 61 = .ok (.if_icmp .ne 17, 3) := dk_160 0 17 (dk_at dksX4_init_2 13 rfl rfl)
theorem dX4_init_64 : decode cX4_init 64 = .ok (.aload_n 0, 1) := dk_42 (dk_at dksX4_init_2 16 rfl rfl)
theorem dX4_init_65 : decode cX4_init 65 = .ok (.iconst 1, 1) := dk_4 (dk_at dksX4_init_2 17 rfl rfl)
theorem dX4_init_66 : decode cX4_init 66 = .ok (.newarray .int, 2) := dk_188_10 (dk_at dksX4_init_2 18 rfl rfl)
theorem dX4_init_68 : decode cX4_init 68 = .ok (.dup, 1) := dk_89 (dk_at dksX4_init_2 20 rfl rfl)
theorem dX4_init_69 : decode cX4_init 69 = .ok (.iconst 0, 1) := dk_3 (dk_at dksX4_init_2 21 rfl rfl)
theorem dX4_init_70 : decode cX4_init 70 = .ok (.iconst 0, 1) := dk_3 (dk_at dksX4_init_2 22 rfl rfl)
theorem dX4_init_71 : decode cX4_init 71 = .ok (.iastore, 1) := dk_79 (dk_at dksX4_init_2 23 rfl rfl)
theorem dX4_init_72 : decode cX4_init 72 = .ok (.putfield 16, 3) := dk_181 0 16 (dk_at dksX4_init_3 0 rfl rfl)
theorem dX4_init_75 : decode cX4_init 75 = .ok (.goto 29, 3) := dk_167 0 29 (dk_at dksX4_init_3 3 rfl rfl)
theorem dX4_init_78 : decode cX4_init 78 = .ok (.aload_n 0, 1) := dk_42 (dk_at dksX4_init_3 6 rfl rfl)
theorem dX4_init_79 : decode cX4_init 79 = .ok (.iload_n 3, 1) := dk_29 (dk_at dksX4_init_3 7 rfl rfl)
theorem dX4_init_80 : decode cX4_init 80 = .ok (.iload 4, 2) := dk_21 4 (dk_at dksX4_init_3 8 rfl rfl)
theorem dX4_init_82 : decode cX4_init 82 = .ok (.isub, 1) := dk_100 (dk_at dksX4_init_3 10 rfl rfl)
theorem dX4_init_83 : decode cX4_init 83 = .ok (.newarray .int, 2) := dk_188_10 (dk_at dksX4_init_3 11 rfl rfl)
theorem dX4_init_85 : decode cX4_init 85 = .ok (.putfield 16, 3) := dk_181 0 16 (dk_at dksX4_init_3 13 rfl rfl)
theorem dX4_init_88 : decode cX4_init 88 = .ok (.aload_n 2, 1) := dk_44 (dk_at dksX4_init_3 16 rfl rfl)
theorem dX4_init_89 : decode cX4_init 89 = .ok (.iload 4, 2) := dk_21 4 (dk_at dksX4_init_3 17 rfl rfl)
theorem dX4_init_91 : decode cX4_init 91 = .ok (.aload_n 0, 1) := dk_42 (dk_at dksX4_init_3 19 rfl rfl)
theorem dX4_init_92 : decode cX4_init 92 = .ok (.getfield 16, 3) := dk_180 0 16 (dk_at dksX4_init_3 20 rfl rfl)
theorem dX4_init_95 : decode cX4_init 95 = .ok (.iconst 0, 1) := dk_3 (dk_at dksX4_init_3 23 rfl rfl)
theorem dX4_init_96 : decode cX4_init 96 = .ok (.aload_n 0, 1) := dk_42 (dk_at dksX4_init_4 0 rfl rfl)
theorem dX4_init_97 : decode cX4_init 97 = .ok (.getfield 16, 3) := dk_180 0 16 (dk_at dksX4_init_4 1 rfl rfl)
theorem dX4_init_100 : decode cX4_init 100 = .ok (.arraylength, 1) := dk_190 (dk_at dksX4_init_4 4 rfl rfl)
theorem dX4_init_101 : decode cX4_init 101 = .ok (.invokestatic 20, 3) := dk_184 0 20 (dk_at dksX4_init_4 5 rfl rfl)
theorem dX4_init_104 : decode cX4_init 104 = .ok (.goto 8, 3) := dk_167 0 8 (dk_at dksX4_init_4 8 rfl rfl)
theorem dX4_init_107 : decode cX4_init 107 = .ok (.aload_n 0, 1) := dk_42 (dk_at dksX4_init_4 11 rfl rfl)
theorem dX4_init_108 : decode cX4_init 108 = .ok (.aload_n 2, 1) := dk_44 (dk_at dksX4_init_4 12 rfl rfl)
theorem dX4_init_109 : decode cX4_init 109 = .ok (.putfield 16, 3) := dk_181 0 16 (dk_at dksX4_init_4 13 rfl rfl)
theorem dX4_init_112 : decode cX4_init 112 = .ok (.return_, 1) := dk_177 (dk_at dksX4_init_4 16 rfl rfl)
abbrev cX4_evaluateAt : ByteArray := prog_4_method_5_code
def yX4_evaluateAt : MethodName := ⟨RX4, "evaluateAt", "(I)I"⟩
def dkwX4_evaluateAt_4 : List UInt8 := [182, 0, 36, 42, 180, 0, 16, 21, 4, 46, 182, 0, 30, 61, 132, 4, 1, 167, 255, 223, 28, 172]
abbrev dktX4_evaluateAt_4 : List UInt8 := dkwX4_evaluateAt_4 ++ []
def dkwX4_evaluateAt_3 : List UInt8 := [180, 0, 16, 190, 62, 4, 54, 4, 21, 4, 29, 162, 0, 33, 42, 180, 0, 10, 42, 180, 0, 10, 27, 28]
abbrev dktX4_evaluateAt_3 : List UInt8 := dkwX4_evaluateAt_3 ++ dktX4_evaluateAt_4
def dkwX4_evaluateAt_2 : List UInt8 := [21, 6, 182, 0, 30, 61, 132, 5, 1, 167, 255, 229, 28, 172, 42, 180, 0, 16, 3, 46, 61, 42]
abbrev dktX4_evaluateAt_2 : List UInt8 := dkwX4_evaluateAt_2 ++ dktX4_evaluateAt_3
def dkwX4_evaluateAt_1 : List UInt8 := [54, 4, 3, 54, 5, 21, 5, 21, 4, 162, 0, 26, 45, 21, 5, 46, 54, 6, 42, 180, 0, 10, 28]
abbrev dktX4_evaluateAt_1 : List UInt8 := dkwX4_evaluateAt_1 ++ dktX4_evaluateAt_2
def dkwX4_evaluateAt_0 : List UInt8 := [27, 154, 0, 9, 42, 3, 182, 0, 26, 172, 27, 4, 160, 0, 49, 3, 61, 42, 180, 0, 16, 78, 45, 190]
abbrev dktX4_evaluateAt_0 : List UInt8 := dkwX4_evaluateAt_0 ++ dktX4_evaluateAt_1
theorem dksX4_evaluateAt_0 : cX4_evaluateAt.data.toList.drop 0 = dktX4_evaluateAt_0 := by decide +kernel
theorem dksX4_evaluateAt_1 : cX4_evaluateAt.data.toList.drop 24 = dktX4_evaluateAt_1 := dk_seg dksX4_evaluateAt_0 24 rfl rfl
theorem dksX4_evaluateAt_2 : cX4_evaluateAt.data.toList.drop 47 = dktX4_evaluateAt_2 := dk_seg dksX4_evaluateAt_1 23 rfl rfl
theorem dksX4_evaluateAt_3 : cX4_evaluateAt.data.toList.drop 69 = dktX4_evaluateAt_3 := dk_seg dksX4_evaluateAt_2 22 rfl rfl
theorem dksX4_evaluateAt_4 : cX4_evaluateAt.data.toList.drop 93 = dktX4_evaluateAt_4 := dk_seg dksX4_evaluateAt_3 24 rfl rfl
theorem dX4_evaluateAt_0 : decode cX4_evaluateAt 0 = .ok (.iload_n 1, 1) := dk_27 (dk_at dksX4_evaluateAt_0 0 rfl rfl)
theorem dX4_evaluateAt_1 : decode cX4_evaluateAt 1 = .ok (.ifCond .ne 9, 3) := dk_154 0 9 (dk_at dksX4_evaluateAt_0 1 rfl rfl)
theorem dX4_evaluateAt_4 : decode cX4_evaluateAt 4 = .ok (.aload_n 0, 1) := dk_42 (dk_at dksX4_evaluateAt_0 4 rfl rfl)
theorem dX4_evaluateAt_5 : decode cX4_evaluateAt 5 = .ok (.iconst 0, 1) := dk_3 (dk_at dksX4_evaluateAt_0 5 rfl rfl)
theorem dX4_evaluateAt_6 : decode cX4_evaluateAt 6 = .ok (.invokevirtual 26, 3) := dk_182 0 26 (dk_at dksX4_evaluateAt_0 6 rfl rfl)
theorem dX4_evaluateAt_9 : decode cX4_evaluateAt 9 = .ok (.ireturn, 1) := dk_172 (dk_at dksX4_evaluateAt_0 9 rfl rfl)
theorem dX4_evaluateAt_10 : decode cX4_evaluateAt 10 = .ok (.iload_n 1, 1) := dk_27 (dk_at dksX4_evaluateAt_0 10 rfl rfl)
theorem dX4_evaluateAt_11 : decode cX4_evaluateAt 11 = .ok (.iconst 1, 1) := dk_4 (dk_at dksX4_evaluateAt_0 11 rfl rfl)
theorem dX4_evaluateAt_12 : decode cX4_evaluateAt 12 = .ok (.if_icmp .ne 49, 3) := dk_160 0 49 (dk_at dksX4_evaluateAt_0 12 rfl rfl)
theorem dX4_evaluateAt_15 : decode cX4_evaluateAt 15 = .ok (.iconst 0, 1) := dk_3 (dk_at dksX4_evaluateAt_0 15 rfl rfl)
theorem dX4_evaluateAt_16 : decode cX4_evaluateAt 16 = .ok (.istore_n 2, 1) := dk_61 (dk_at dksX4_evaluateAt_0 16 rfl rfl)
theorem dX4_evaluateAt_17 : decode cX4_evaluateAt 17 = .ok (.aload_n 0, 1) := dk_42 (dk_at dksX4_evaluateAt_0 17 rfl rfl)
theorem dX4_evaluateAt_18 : decode cX4_evaluateAt 18 = .ok (.getfield 16, 3) := dk_180 0 16 (dk_at dksX4_evaluateAt_0 18 rfl rfl)
theorem dX4_evaluateAt_21 : decode cX4_evaluateAt 21 = .ok (.astore_n 3, 1) := dk_78 (dk_at dksX4_evaluateAt_0 21 rfl rfl)
theorem dX4_evaluateAt_22 : decode cX4_evaluateAt 22 = .ok (.aload_n 3, 1) := dk_45 (dk_at dksX4_evaluateAt_0 22 rfl rfl)
theorem dX4_evaluateAt_23 : decode cX4_evaluateAt 23 = .ok (.arraylength, 1) := dk_190 (dk_at dksX4_evaluateAt_0 23 rfl rfl)
theorem dX4_evaluateAt_24 : decode cX4_evaluateAt 24 = .ok (.istore 4, 2) := dk_54 4 (dk_at dksX4_evaluateAt_1 0 rfl rfl)
theorem dX4_evaluateAt_26 : decode cX4_evaluateAt 26 = .ok (.iconst 0, 1) := dk_3 (dk_at dksX4_evaluateAt_1 2 rfl rfl)
theorem dX4_evaluateAt_27 : decode cX4_evaluateAt 27 = .ok (.istore 5, 2) := dk_54 5 (dk_at dksX4_evaluateAt_1 3 rfl rfl)
theorem dX4_evaluateAt_29 : decode cX4_evaluateAt 29 = .ok (.iload 5, 2) := dk_21 5 (dk_at dksX4_evaluateAt_1 5 rfl rfl)
theorem dX4_evaluateAt_31 : decode cX4_evaluateAt 31 = .ok (.iload 4, 2) := dk_21 4 (dk_at dksX4_evaluateAt_1 7 rfl rfl)
theorem dX4_evaluateAt_33 : decode cX4_evaluateAt 33 = .ok (.if_icmp .ge 26, 3) := dk_162 0 26 (dk_at dksX4_evaluateAt_1 9 rfl rfl)
theorem dX4_evaluateAt_36 : decode cX4_evaluateAt 36 = .ok (.aload_n 3, 1) := dk_45 (dk_at dksX4_evaluateAt_1 12 rfl rfl)
theorem dX4_evaluateAt_37 : decode cX4_evaluateAt 37 = .ok (.iload 5, 2) := dk_21 5 (dk_at dksX4_evaluateAt_1 13 rfl rfl)
theorem dX4_evaluateAt_39 : decode cX4_evaluateAt 39 = .ok (.iaload, 1) := dk_46 (dk_at dksX4_evaluateAt_1 15 rfl rfl)
theorem dX4_evaluateAt_40 : decode cX4_evaluateAt 40 = .ok (.istore 6, 2) := dk_54 6 (dk_at dksX4_evaluateAt_1 16 rfl rfl)
theorem dX4_evaluateAt_42 : decode cX4_evaluateAt 42 = .ok (.aload_n 0, 1) := dk_42 (dk_at dksX4_evaluateAt_1 18 rfl rfl)
theorem dX4_evaluateAt_43 : decode cX4_evaluateAt 43 = .ok (.getfield 10, 3) := dk_180 0 10 (dk_at dksX4_evaluateAt_1 19 rfl rfl)
theorem dX4_evaluateAt_46 : decode cX4_evaluateAt 46 = .ok (.iload_n 2, 1) := dk_28 (dk_at dksX4_evaluateAt_1 22 rfl rfl)
theorem dX4_evaluateAt_47 : decode cX4_evaluateAt 47 = .ok (.iload 6, 2) := dk_21 6 (dk_at dksX4_evaluateAt_2 0 rfl rfl)
theorem dX4_evaluateAt_49 : decode cX4_evaluateAt 49 = .ok (.invokevirtual 30, 3) := dk_182 0 30 (dk_at dksX4_evaluateAt_2 2 rfl rfl)
theorem dX4_evaluateAt_52 : decode cX4_evaluateAt 52 = .ok (.istore_n 2, 1) := dk_61 (dk_at dksX4_evaluateAt_2 5 rfl rfl)
theorem dX4_evaluateAt_53 : decode cX4_evaluateAt 53 = .ok (.iinc 5 1, 3) := dk_132 5 1 (dk_at dksX4_evaluateAt_2 6 rfl rfl)
theorem dX4_evaluateAt_56 : decode cX4_evaluateAt 56 = .ok (.goto (-27), 3) := dk_167 255 229 (dk_at dksX4_evaluateAt_2 9 rfl rfl)
theorem dX4_evaluateAt_59 : decode cX4_evaluateAt 59 = .ok (.iload_n 2, 1) := dk_28 (dk_at dksX4_evaluateAt_2 12 rfl rfl)
theorem dX4_evaluateAt_60 : decode cX4_evaluateAt 60 = .ok (.ireturn, 1) := dk_172 (dk_at dksX4_evaluateAt_2 13 rfl rfl)
theorem dX4_evaluateAt_61 : decode cX4_evaluateAt 61 = .ok (.aload_n 0, 1) := dk_42 (dk_at dksX4_evaluateAt_2 14 rfl rfl)
theorem dX4_evaluateAt_62 : decode cX4_evaluateAt 62 = .ok (.getfield 16, 3) := dk_180 0 16 (dk_at dksX4_evaluateAt_2 15 rfl rfl)
theorem dX4_evaluateAt_65 : decode cX4_evaluateAt 65 = .ok (.iconst 0, 1) := dk_3 (dk_at dksX4_evaluateAt_2 18 rfl rfl)
theorem dX4_evaluateAt_66 : decode cX4_evaluateAt 66 = .ok (.iaload, 1) := dk_46 (dk_at dksX4_evaluateAt_2 19 rfl rfl)
theorem dX4_evaluateAt_67 : decode cX4_evaluateAt 67 = .ok (.istore_n 2, 1) := dk_61 (dk_at dksX4_evaluateAt_2 20 rfl rfl)
theorem dX4_evaluateAt_68 : decode cX4_evaluateAt 68 = .ok (.aload_n 0, 1) := dk_42 (dk_at dksX4_evaluateAt_2 21 rfl rfl)
theorem dX4_evaluateAt_69 : decode cX4_evaluateAt 69 = .ok (.getfield 16, 3) := dk_180 0 16 (dk_at dksX4_evaluateAt_3 0 rfl rfl)
theorem dX4_evaluateAt_72 : decode cX4_evaluateAt 72 = .ok (.arraylength, 1) := dk_190 (dk_at dksX4_evaluateAt_3 3 rfl rfl)
theorem dX4_evaluateAt_73 : decode cX4_evaluateAt 73 = .ok (.istore_n 3, 1) := dk_62 (dk_at dksX4_evaluateAt_3 4 rfl rfl)
theorem dX4_evaluateAt_74 : decode cX4_evaluateAt 74 = .ok (.iconst 1, 1) := dk_4 (dk_at dksX4_evaluateAt_3 5 rfl rfl)
theorem dX4_evaluateAt_75 : decode cX4_evaluateAt 75 = .ok (.istore 4, 2) := dk_54 4 (dk_at dksX4_evaluateAt_3 6 rfl rfl)
theorem dX4_evaluateAt_77 : decode cX4_evaluateAt 77 = .ok (.iload 4, 2) := dk_21 4 (dk_at dksX4_evaluateAt_3 8 rfl rfl)
theorem dX4_evaluateAt_79 : decode cX4_evaluateAt 79 = .ok (.iload_n 3, 1) := dk_29 (dk_at dksX4_evaluateAt_3 10 rfl rfl)
theorem dX4_evaluateAt_80 : decode cX4_evaluateAt 80 = .ok (.if_icmp .ge 33, 3) := dk_162 0 33 (dk_at dksX4_evaluateAt_3 11 rfl rfl)
theorem dX4_evaluateAt_83 : decode cX4_evaluateAt 83 = .ok (.aload_n 0, 1) := dk_42 (dk_at dksX4_evaluateAt_3 14 rfl rfl)
theorem dX4_evaluateAt_84 : decode cX4_evaluateAt 84 = .ok (.getfield 10, 3) := dk_180 0 10 (dk_at dksX4_evaluateAt_3 15 rfl rfl)
theorem dX4_evaluateAt_87 : decode cX4_evaluateAt 87 = .ok (.aload_n 0, 1) := dk_42 (dk_at dksX4_evaluateAt_3 18 rfl rfl)
theorem dX4_evaluateAt_88 : decode cX4_evaluateAt 88 = .ok (.getfield 10, 3) := dk_180 0 10 (dk_at dksX4_evaluateAt_3 19 rfl rfl)
theorem dX4_evaluateAt_91 : decode cX4_evaluateAt 91 = .ok (.iload_n 1, 1) := dk_27 (dk_at dksX4_evaluateAt_3 22 rfl rfl)
theorem dX4_evaluateAt_92 : decode cX4_evaluateAt 92 = .ok (.iload_n 2, 1) := dk_28 (dk_at dksX4_evaluateAt_3 23 rfl rfl)
theorem dX4_evaluateAt_93 : decode cX4_evaluateAt 93 = .ok (.invokevirtual 36, 3) := dk_182 0 36 (dk_at dksX4_evaluateAt_4 0 rfl rfl)
theorem dX4_evaluateAt_96 : decode cX4_evaluateAt 96 = .ok (.aload_n 0, 1) := dk_42 (dk_at dksX4_evaluateAt_4 3 rfl rfl)
theorem dX4_evaluateAt_97 : decode cX4_evaluateAt 97 = .ok (.getfield 16, 3) := dk_180 0 16 (dk_at dksX4_evaluateAt_4 4 rfl rfl)
theorem dX4_evaluateAt_100 : decode cX4_evaluateAt 100 = .ok (.iload 4, 2) := dk_21 4 (dk_at dksX4_evaluateAt_4 7 rfl rfl)
theorem dX4_evaluateAt_102 : decode cX4_evaluateAt 102 = .ok (.iaload, 1) := dk_46 (dk_at dksX4_evaluateAt_4 9 rfl rfl)
theorem dX4_evaluateAt_103 : decode cX4_evaluateAt 103 = .ok (.invokevirtual 30, 3) := dk_182 0 30 (dk_at dksX4_evaluateAt_4 10 rfl rfl)
theorem dX4_evaluateAt_106 : decode cX4_evaluateAt 106 = .ok (.istore_n 2, 1) := dk_61 (dk_at dksX4_evaluateAt_4 13 rfl rfl)
theorem dX4_evaluateAt_107 : decode cX4_evaluateAt 107 = .ok (.iinc 4 1, 3) := dk_132 4 1 (dk_at dksX4_evaluateAt_4 14 rfl rfl)
theorem dX4_evaluateAt_110 : decode cX4_evaluateAt 110 = .ok (.goto (-33), 3) := dk_167 255 223 (dk_at dksX4_evaluateAt_4 17 rfl rfl)
theorem dX4_evaluateAt_113 : decode cX4_evaluateAt 113 = .ok (.iload_n 2, 1) := dk_28 (dk_at dksX4_evaluateAt_4 20 rfl rfl)
theorem dX4_evaluateAt_114 : decode cX4_evaluateAt 114 = .ok (.ireturn, 1) := dk_172 (dk_at dksX4_evaluateAt_4 21 rfl rfl)
abbrev cX4_getCoefficient : ByteArray := prog_4_method_4_code
def yX4_getCoefficient : MethodName := ⟨RX4, "getCoefficient", "(I)I"⟩
def dkwX4_getCoefficient_0 : List UInt8 := [42, 180, 0, 16, 42, 180, 0, 16, 190, 4, 100, 27, 100, 46, 172]
abbrev dktX4_getCoefficient_0 : List UInt8 := dkwX4_getCoefficient_0 ++ []
theorem dksX4_getCoefficient_0 : cX4_getCoefficient.data.toList.drop 0 = dktX4_getCoefficient_0 := by decide +kernel
theorem dX4_getCoefficient_0 : decode cX4_getCoefficient 0 = .ok (.aload_n 0, 1) := dk_42 (dk_at dksX4_getCoefficient_0 0 rfl rfl)
theorem dX4_getCoefficient_1 : decode cX4_getCoefficient 1 = .ok (.getfield 16, 3) := dk_180 0 16 (dk_at dksX4_getCoefficient_0 1 rfl rfl)
theorem dX4_getCoefficient_4 : decode cX4_getCoefficient 4 = .ok (.aload_n 0, 1) := dk_42 (dk_at dksX4_getCoefficient_0 4 rfl rfl)
theorem dX4_getCoefficient_5 : decode cX4_getCoefficient 5 = .ok (.getfield 16, 3) := dk_180 0 16 (dk_at dksX4_getCoefficient_0 5 rfl rfl)
theorem dX4_getCoefficient_8 : decode cX4_getCoefficient 8 = .ok (.arraylength, 1) := dk_190 (dk_at dksX4_getCoefficient_0 8 rfl rfl)
theorem dX4_getCoefficient_9 : decode cX4_getCoefficient 9 = .ok (.iconst 1, 1) := dk_4 (dk_at dksX4_getCoefficient_0 9 rfl rfl)
theorem dX4_getCoefficient_10 : decode cX4_getCoefficient 10 = .ok (.isub, 1) := dk_100 (dk_at dksX4_getCoefficient_0 10 rfl rfl)
theorem dX4_getCoefficient_11 : decode cX4_getCoefficient 11 = .ok (.iload_n 1, 1) := dk_27 (dk_at dksX4_getCoefficient_0 11 rfl rfl)
theorem dX4_getCoefficient_12 : decode cX4_getCoefficient 12 = .ok (.isub, 1) := dk_100 (dk_at dksX4_getCoefficient_0 12 rfl rfl)
theorem dX4_getCoefficient_13 : decode cX4_getCoefficient 13 = .ok (.iaload, 1) := dk_46 (dk_at dksX4_getCoefficient_0 13 rfl rfl)
theorem dX4_getCoefficient_14 : decode cX4_getCoefficient 14 = .ok (.ireturn, 1) := dk_172 (dk_at dksX4_getCoefficient_0 14 rfl rfl)
abbrev cX4_multiply : ByteArray := prog_4_method_8_code
def yX4_multiply : MethodName := ⟨RX4, "multiply", "(LModulusPoly;)LModulusPoly;"⟩
def dkwX4_multiply_6 : List UInt8 := [132, 7, 1, 167, 255, 188, 187, 0, 11, 89, 42, 180, 0, 10, 25, 6, 183, 0, 48, 176]
abbrev dktX4_multiply_6 : List UInt8 := dkwX4_multiply_6 ++ []
def dkwX4_multiply_5 : List UInt8 := [42, 180, 0, 10, 21, 8, 25, 4, 21, 9, 46, 182, 0, 36, 182, 0, 30, 79, 132, 9, 1, 167, 255, 209]
abbrev dktX4_multiply_5 : List UInt8 := dkwX4_multiply_5 ++ dktX4_multiply_6
def dkwX4_multiply_4 : List UInt8 := [21, 5, 162, 0, 46, 25, 6, 21, 7, 21, 9, 96, 42, 180, 0, 10, 25, 6, 21, 7, 21, 9, 96, 46]
abbrev dktX4_multiply_4 : List UInt8 := dkwX4_multiply_4 ++ dktX4_multiply_5
def dkwX4_multiply_3 : List UInt8 := [188, 10, 58, 6, 3, 54, 7, 21, 7, 29, 162, 0, 68, 44, 21, 7, 46, 54, 8, 3, 54, 9, 21, 9]
abbrev dktX4_multiply_3 : List UInt8 := dkwX4_multiply_3 ++ dktX4_multiply_4
def dkwX4_multiply_2 : List UInt8 := [180, 0, 16, 77, 44, 190, 62, 43, 180, 0, 16, 58, 4, 25, 4, 190, 54, 5, 29, 21, 5, 96, 4, 100]
abbrev dktX4_multiply_2 : List UInt8 := dkwX4_multiply_2 ++ dktX4_multiply_3
def dkwX4_multiply_1 : List UInt8 := [182, 0, 44, 154, 0, 10, 43, 182, 0, 44, 153, 0, 11, 42, 180, 0, 10, 182, 0, 58, 176, 42]
abbrev dktX4_multiply_1 : List UInt8 := dkwX4_multiply_1 ++ dktX4_multiply_2
def dkwX4_multiply_0 : List UInt8 := [42, 180, 0, 10, 43, 180, 0, 10, 165, 0, 13, 187, 0, 7, 89, 18, 39, 183, 0, 41, 191, 42]
abbrev dktX4_multiply_0 : List UInt8 := dkwX4_multiply_0 ++ dktX4_multiply_1
theorem dksX4_multiply_0 : cX4_multiply.data.toList.drop 0 = dktX4_multiply_0 := by decide +kernel
theorem dksX4_multiply_1 : cX4_multiply.data.toList.drop 22 = dktX4_multiply_1 := dk_seg dksX4_multiply_0 22 rfl rfl
theorem dksX4_multiply_2 : cX4_multiply.data.toList.drop 44 = dktX4_multiply_2 := dk_seg dksX4_multiply_1 22 rfl rfl
theorem dksX4_multiply_3 : cX4_multiply.data.toList.drop 68 = dktX4_multiply_3 := dk_seg dksX4_multiply_2 24 rfl rfl
theorem dksX4_multiply_4 : cX4_multiply.data.toList.drop 92 = dktX4_multiply_4 := dk_seg dksX4_multiply_3 24 rfl rfl
theorem dksX4_multiply_5 : cX4_multiply.data.toList.drop 116 = dktX4_multiply_5 := dk_seg dksX4_multiply_4 24 rfl rfl
theorem dksX4_multiply_6 : cX4_multiply.data.toList.drop 140 = dktX4_multiply_6 := dk_seg dksX4_multiply_5 24 rfl rfl
theorem dX4_multiply_0 : decode cX4_multiply 0 = .ok (.aload_n 0, 1) := dk_42 (dk_at dksX4_multiply_0 0 rfl rfl)
theorem dX4_multiply_1 : decode cX4_multiply 1 = .ok (.getfield 10, 3) := dk_180 0 10 (dk_at dksX4_multiply_0 1 rfl rfl)
theorem dX4_multiply_4 : decode cX4_multiply 4 = .ok (.aload_n 1, 1) := dk_43 (dk_at dksX4_multiply_0 4 rfl rfl)
theorem dX4_multiply_5 : decode cX4_multiply 5 = .ok (.getfield 10, 3) := dk_180 0 10 (dk_at dksX4_multiply_0 5 rfl rfl)
theorem dX4_multiply_8 : decode cX4_multiply 8 = .ok (.if_acmp .eq 13, 3) := dk_165 0 13 (dk_at dksX4_multiply_0 8 rfl rfl)
theorem dX4_multiply_11 : decode cX4_multiply 11 = .ok (.new 7, 3) := dk_187 0 7 (dk_at dksX4_multiply_0 11 rfl rfl)
theorem dX4_multiply_14 : decode cX4_multiply 14 = .ok (.dup, 1) := dk_89 (dk_at dksX4_multiply_0 14 rfl rfl)
theorem dX4_multiply_15 : decode cX4_multiply 15 = .ok (.ldc 39, 2) := dk_18 39 (dk_at dksX4_multiply_0 15 rfl rfl)
theorem dX4_multiply_17 : decode cX4_multiply 17 = .ok (.invokespecial 41, 3) := dk_183 0 41 (dk_at dksX4_multiply_0 17 rfl rfl)
theorem dX4_multiply_20 : decode cX4_multiply 20 = .ok (.athrow, 1) := dk_191 (dk_at dksX4_multiply_0 20 rfl rfl)
theorem dX4_multiply_21 : decode cX4_multiply 21 = .ok (.aload_n 0, 1) := dk_42 (dk_at dksX4_multiply_0 21 rfl rfl)
theorem dX4_multiply_22 : decode cX4_multiply 22 = .ok (.invokevirtual 44, 3) := dk_182 0 44 (dk_at dksX4_multiply_1 0 rfl rfl)
theorem dX4_multiply_25 : decode cX4_multiply 25 = .ok (.ifCond .ne 10, 3) := dk_154 0 10 (dk_at dksX4_multiply_1 3 rfl rfl)
theorem dX4_multiply_28 : decode cX4_multiply 28 = .ok (.aload_n 1, 1) := dk_43 (dk_at dksX4_multiply_1 6 rfl rfl)
theorem dX4_multiply_29 : decode cX4_multiply 29 = .ok (.invokevirtual 44, 3) := dk_182 0 44 (dk_at dksX4_multiply_1 7 rfl rfl)
theorem dX4_multiply_32 : decode cX4_multiply 32 = .ok (.ifCond .eq 11, 3) := dk_153 0 11 (dk_at dksX4_multiply_1 10 rfl rfl)
theorem dX4_multiply_35 : decode cX4_multiply 35 = .ok (.aload_n 0, 1) := dk_42 (dk_at dksX4_multiply_1 13 rfl rfl)
theorem dX4_multiply_36 : decode cX4_multiply 36 = .ok (.getfield 10, 3) := dk_180 0 10 (dk_at dksX4_multiply_1 14 rfl rfl)
theorem dX4_multiply_39 : decode cX4_multiply 39 = .ok (.invokevirtual 58, 3) := dk_182 0 58 (dk_at dksX4_multiply_1 17 rfl rfl)
theorem dX4_multiply_42 : decode cX4_multiply 42 = .ok (.areturn, 1) := dk_176 (dk_at dksX4_multiply_1 20 rfl rfl)
theorem dX4_multiply_43 : decode cX4_multiply 43 = .ok (.aload_n 0, 1) := dk_42 (dk_at dksX4_multiply_1 21 rfl rfl)
theorem dX4_multiply_44 : decode cX4_multiply 44 = .ok (.getfield 16, 3) := dk_180 0 16 (dk_at dksX4_multiply_2 0 rfl rfl)
theorem dX4_multiply_47 : decode cX4_multiply 47 = .ok (.astore_n 2, 1) := dk_77 (dk_at dksX4_multiply_2 3 rfl rfl)
theorem dX4_multiply_48 : decode cX4_multiply 48 = .ok (.aload_n 2, 1) := dk_44 (dk_at dksX4_multiply_2 4 rfl rfl)
theorem dX4_multiply_49 : decode cX4_multiply 49 = .ok (.arraylength, 1) := dk_190 (dk_at dksX4_multiply_2 5 rfl rfl)
theorem dX4_multiply_50 : decode cX4_multiply 50 = .ok (.istore_n 3, 1) := dk_62 (dk_at dksX4_multiply_2 6 rfl rfl)
theorem dX4_multiply_51 : decode cX4_multiply 51 = .ok (.aload_n 1, 1) := dk_43 (dk_at dksX4_multiply_2 7 rfl rfl)
theorem dX4_multiply_52 : decode cX4_multiply 52 = .ok (.getfield 16, 3) := dk_180 0 16 (dk_at dksX4_multiply_2 8 rfl rfl)
theorem dX4_multiply_55 : decode cX4_multiply 55 = .ok (.astore 4, 2) := dk_58 4 (dk_at dksX4_multiply_2 11 rfl rfl)
theorem dX4_multiply_57 : decode cX4_multiply 57 = .ok (.aload 4, 2) := dk_25 4 (dk_at dksX4_multiply_2 13 rfl rfl)
theorem dX4_multiply_59 : decode cX4_multiply 59 = .ok (.arraylength, 1) := dk_190 (dk_at dksX4_multiply_2 15 rfl rfl)
theorem dX4_multiply_60 : decode cX4_multiply 60 = .ok (.istore 5, 2) := dk_54 5 (dk_at dksX4_multiply_2 16 rfl rfl)
theorem dX4_multiply_62 : decode cX4_multiply 62 = .ok (.iload_n 3, 1) := dk_29 (dk_at dksX4_multiply_2 18 rfl rfl)
theorem dX4_multiply_63 : decode cX4_multiply 63 = .ok (.iload 5, 2) := dk_21 5 (dk_at dksX4_multiply_2 19 rfl rfl)
theorem dX4_multiply_65 : decode cX4_multiply 65 = .ok (.iadd, 1) := dk_96 (dk_at dksX4_multiply_2 21 rfl rfl)
theorem dX4_multiply_66 : decode cX4_multiply 66 = .ok (.iconst 1, 1) := dk_4 (dk_at dksX4_multiply_2 22 rfl rfl)
theorem dX4_multiply_67 : decode cX4_multiply 67 = .ok (.isub, 1) := dk_100 (dk_at dksX4_multiply_2 23 rfl rfl)
theorem dX4_multiply_68 : decode cX4_multiply 68 = .ok (.newarray .int, 2) := dk_188_10 (dk_at dksX4_multiply_3 0 rfl rfl)
theorem dX4_multiply_70 : decode cX4_multiply 70 = .ok (.astore 6, 2) := dk_58 6 (dk_at dksX4_multiply_3 2 rfl rfl)
theorem dX4_multiply_72 : decode cX4_multiply 72 = .ok (.iconst 0, 1) := dk_3 (dk_at dksX4_multiply_3 4 rfl rfl)
theorem dX4_multiply_73 : decode cX4_multiply 73 = .ok (.istore 7, 2) := dk_54 7 (dk_at dksX4_multiply_3 5 rfl rfl)
theorem dX4_multiply_75 : decode cX4_multiply 75 = .ok (.iload 7, 2) := dk_21 7 (dk_at dksX4_multiply_3 7 rfl rfl)
theorem dX4_multiply_77 : decode cX4_multiply 77 = .ok (.iload_n 3, 1) := dk_29 (dk_at dksX4_multiply_3 9 rfl rfl)
theorem dX4_multiply_78 : decode cX4_multiply 78 = .ok (.if_icmp .ge 68, 3) := dk_162 0 68 (dk_at dksX4_multiply_3 10 rfl rfl)
theorem dX4_multiply_81 : decode cX4_multiply 81 = .ok (.aload_n 2, 1) := dk_44 (dk_at dksX4_multiply_3 13 rfl rfl)
theorem dX4_multiply_82 : decode cX4_multiply 82 = .ok (.iload 7, 2) := dk_21 7 (dk_at dksX4_multiply_3 14 rfl rfl)
theorem dX4_multiply_84 : decode cX4_multiply 84 = .ok (.iaload, 1) := dk_46 (dk_at dksX4_multiply_3 16 rfl rfl)
theorem dX4_multiply_85 : decode cX4_multiply 85 = .ok (.istore 8, 2) := dk_54 8 (dk_at dksX4_multiply_3 17 rfl rfl)
theorem dX4_multiply_87 : decode cX4_multiply 87 = .ok (.iconst 0, 1) := dk_3 (dk_at dksX4_multiply_3 19 rfl rfl)
theorem dX4_multiply_88 : decode cX4_multiply 88 = .ok (.istore 9, 2) := dk_54 9 (dk_at dksX4_multiply_3 20 rfl rfl)
theorem dX4_multiply_90 : decode cX4_multiply 90 = .ok (.iload 9, 2) := dk_21 9 (dk_at dksX4_multiply_3 22 rfl rfl)
theorem dX4_multiply_92 : decode cX4_multiply 92 = .ok (.iload 5, 2) := dk_21 5 (dk_at dksX4_multiply_4 0 rfl rfl)
theorem dX4_multiply_94 : decode cX4_multiply 94 = .ok (.if_icmp .ge 46, 3) := dk_162 0 46 (dk_at dksX4_multiply_4 2 rfl rfl)
theorem dX4_multiply_97 : decode cX4_multiply 97 = .ok (.aload 6, 2) := dk_25 6 (dk_at dksX4_multiply_4 5 rfl rfl)
theorem dX4_multiply_99 : decode cX4_multiply 99 = .ok (.iload 7, 2) := dk_21 7 (dk_at dksX4_multiply_4 7 rfl rfl)
theorem dX4_multiply_101 : decode cX4_multiply 101 = .ok (.iload 9, 2) := dk_21 9 (dk_at dksX4_multiply_4 9 rfl rfl)
theorem dX4_multiply_103 : decode cX4_multiply 103 = .ok (.iadd, 1) := dk_96 (dk_at dksX4_multiply_4 11 rfl rfl)
theorem dX4_multiply_104 : decode cX4_multiply 104 = .ok (.aload_n 0, 1) := dk_42 (dk_at dksX4_multiply_4 12 rfl rfl)
theorem dX4_multiply_105 : decode cX4_multiply 105 = .ok (.getfield 10, 3) := dk_180 0 10 (dk_at dksX4_multiply_4 13 rfl rfl)
theorem dX4_multiply_108 : decode cX4_multiply 108 = .ok (.aload 6, 2) := dk_25 6 (dk_at dksX4_multiply_4 16 rfl rfl)
theorem dX4_multiply_110 : decode cX4_multiply 110 = .ok (.iload 7, 2) := dk_21 7 (dk_at dksX4_multiply_4 18 rfl rfl)
theorem dX4_multiply_112 : decode cX4_multiply 112 = .ok (.iload 9, 2) := dk_21 9 (dk_at dksX4_multiply_4 20 rfl rfl)
theorem dX4_multiply_114 : decode cX4_multiply 114 = .ok (.iadd, 1) := dk_96 (dk_at dksX4_multiply_4 22 rfl rfl)
theorem dX4_multiply_115 : decode cX4_multiply 115 = .ok (.iaload, 1) := dk_46 (dk_at dksX4_multiply_4 23 rfl rfl)
theorem dX4_multiply_116 : decode cX4_multiply 116 = .ok (.aload_n 0, 1) := dk_42 (dk_at dksX4_multiply_5 0 rfl rfl)
theorem dX4_multiply_117 : decode cX4_multiply 117 = .ok (.getfield 10, 3) := dk_180 0 10 (dk_at dksX4_multiply_5 1 rfl rfl)
theorem dX4_multiply_120 : decode cX4_multiply 120 = .ok (.iload 8, 2) := dk_21 8 (dk_at dksX4_multiply_5 4 rfl rfl)
theorem dX4_multiply_122 : decode cX4_multiply 122 = .ok (.aload 4, 2) := dk_25 4 (dk_at dksX4_multiply_5 6 rfl rfl)
theorem dX4_multiply_124 : decode cX4_multiply 124 = .ok (.iload 9, 2) := dk_21 9 (dk_at dksX4_multiply_5 8 rfl rfl)
theorem dX4_multiply_126 : decode cX4_multiply 126 = .ok (.iaload, 1) := dk_46 (dk_at dksX4_multiply_5 10 rfl rfl)
theorem dX4_multiply_127 : decode cX4_multiply 127 = .ok (.invokevirtual 36, 3) := dk_182 0 36 (dk_at dksX4_multiply_5 11 rfl rfl)
theorem dX4_multiply_130 : decode cX4_multiply 130 = .ok (.invokevirtual 30, 3) := dk_182 0 30 (dk_at dksX4_multiply_5 14 rfl rfl)
theorem dX4_multiply_133 : decode cX4_multiply 133 = .ok (.iastore, 1) := dk_79 (dk_at dksX4_multiply_5 17 rfl rfl)
theorem dX4_multiply_134 : decode cX4_multiply 134 = .ok (.iinc 9 1, 3) := dk_132 9 1 (dk_at dksX4_multiply_5 18 rfl rfl)
theorem dX4_multiply_137 : decode cX4_multiply 137 = .ok (.goto (-47), 3) := dk_167 255 209 (dk_at dksX4_multiply_5 21 rfl rfl)
theorem dX4_multiply_140 : decode cX4_multiply 140 = .ok (.iinc 7 1, 3) := dk_132 7 1 (dk_at dksX4_multiply_6 0 rfl rfl)
theorem dX4_multiply_143 : decode cX4_multiply 143 = .ok (.goto (-68), 3) := dk_167 255 188 (dk_at dksX4_multiply_6 3 rfl rfl)
theorem dX4_multiply_146 : decode cX4_multiply 146 = .ok (.new 11, 3) := dk_187 0 11 (dk_at dksX4_multiply_6 6 rfl rfl)
theorem dX4_multiply_149 : decode cX4_multiply 149 = .ok (.dup, 1) := dk_89 (dk_at dksX4_multiply_6 9 rfl rfl)
theorem dX4_multiply_150 : decode cX4_multiply 150 = .ok (.aload_n 0, 1) := dk_42 (dk_at dksX4_multiply_6 10 rfl rfl)
theorem dX4_multiply_151 : decode cX4_multiply 151 = .ok (.getfield 10, 3) := dk_180 0 10 (dk_at dksX4_multiply_6 11 rfl rfl)
theorem dX4_multiply_154 : decode cX4_multiply 154 = .ok (.aload 6, 2) := dk_25 6 (dk_at dksX4_multiply_6 14 rfl rfl)
theorem dX4_multiply_156 : decode cX4_multiply 156 = .ok (.invokespecial 48, 3) := dk_183 0 48 (dk_at dksX4_multiply_6 16 rfl rfl)
theorem dX4_multiply_159 : decode cX4_multiply 159 = .ok (.areturn, 1) := dk_176 (dk_at dksX4_multiply_6 19 rfl rfl)
abbrev cX4_isZero : ByteArray := prog_4_method_3_code
def yX4_isZero : MethodName := ⟨RX4, "isZero", "()Z"⟩
def dkwX4_isZero_0 : List UInt8 := [42, 180, 0, 16, 3, 46, 154, 0, 7, 4, 167, 0, 4, 3, 172]
abbrev dktX4_isZero_0 : List UInt8 := dkwX4_isZero_0 ++ []
theorem dksX4_isZero_0 : cX4_isZero.data.toList.drop 0 = dktX4_isZero_0 := by decide +kernel
theorem dX4_isZero_0 : decode cX4_isZero 0 = .ok (.aload_n 0, 1) := dk_42 (dk_at dksX4_isZero_0 0 rfl rfl)
theorem dX4_isZero_1 : decode cX4_isZero 1 = .ok (.getfield 16, 3) := dk_180 0 16 (dk_at dksX4_isZero_0 1 rfl rfl)
theorem dX4_isZero_4 : decode cX4_isZero 4 = .ok (.iconst 0, 1) := dk_3 (dk_at dksX4_isZero_0 4 rfl rfl)
theorem dX4_isZero_5 : decode cX4_isZero 5 = .ok (.iaload, 1) := dk_46 (dk_at dksX4_isZero_0 5 rfl rfl)
theorem dX4_isZero_6 : decode cX4_isZero 6 = .ok (.ifCond .ne 7, 3) := dk_154 0 7 (dk_at dksX4_isZero_0 6 rfl rfl)
theorem dX4_isZero_9 : decode cX4_isZero 9 = .ok (.iconst 1, 1) := dk_4 (dk_at dksX4_isZero_0 9 rfl rfl)
theorem dX4_isZero_10 : decode cX4_isZero 10 = .ok (.goto 4, 3) := dk_167 0 4 (dk_at dksX4_isZero_0 10 rfl rfl)
theorem dX4_isZero_13 : decode cX4_isZero 13 = .ok (.iconst 0, 1) := dk_3 (dk_at dksX4_isZero_0 13 rfl rfl)
theorem dX4_isZero_14 : decode cX4_isZero 14 = .ok (.ireturn, 1) := dk_172 (dk_at dksX4_isZero_0 14 rfl rfl)
abbrev cX4_getDegree : ByteArray := prog_4_method_2_code
def yX4_getDegree : MethodName := ⟨RX4, "getDegree", "()I"⟩
def dkwX4_getDegree_0 : List UInt8 := [42, 180, 0, 16, 190, 4, 100, 172]
abbrev dktX4_getDegree_0 : List UInt8 := dkwX4_getDegree_0 ++ []
theorem dksX4_getDegree_0 : cX4_getDegree.data.toList.drop 0 = dktX4_getDegree_0 := by decide +kernel
theorem dX4_getDegree_0 : decode cX4_getDegree 0 = .ok (.aload_n 0, 1) := dk_42 (dk_at dksX4_getDegree_0 0 rfl rfl)
theorem dX4_getDegree_1 : decode cX4_getDegree 1 = .ok (.getfield 16, 3) := dk_180 0 16 (dk_at dksX4_getDegree_0 1 rfl rfl)
theorem dX4_getDegree_4 : decode cX4_getDegree 4 = .ok (.arraylength, 1) := dk_190 (dk_at dksX4_getDegree_0 4 rfl rfl)
theorem dX4_getDegree_5 : decode cX4_getDegree 5 = .ok (.iconst 1, 1) := dk_4 (dk_at dksX4_getDegree_0 5 rfl rfl)
theorem dX4_getDegree_6 : decode cX4_getDegree 6 = .ok (.isub, 1) := dk_100 (dk_at dksX4_getDegree_0 6 rfl rfl)
theorem dX4_getDegree_7 : decode cX4_getDegree 7 = .ok (.ireturn, 1) := dk_172 (dk_at dksX4_getDegree_0 7 rfl rfl)
abbrev cX4_add : ByteArray := prog_4_method_6_code
def yX4_add : MethodName := ⟨RX4, "add", "(LModulusPoly;)LModulusPoly;"⟩
def dkwX4_add_6 : List UInt8 := [183, 0, 48, 176]
abbrev dktX4_add_6 : List UInt8 := dkwX4_add_6 ++ []
def dkwX4_add_5 : List UInt8 := [21, 6, 46, 182, 0, 30, 79, 132, 6, 1, 167, 255, 223, 187, 0, 11, 89, 42, 180, 0, 10, 25, 4]
abbrev dktX4_add_5 : List UInt8 := dkwX4_add_5 ++ dktX4_add_6
def dkwX4_add_4 : List UInt8 := [21, 6, 45, 190, 162, 0, 32, 25, 4, 21, 6, 42, 180, 0, 10, 44, 21, 6, 21, 5, 100, 46, 45]
abbrev dktX4_add_4 : List UInt8 := dkwX4_add_4 ++ dktX4_add_5
def dkwX4_add_3 : List UInt8 := [58, 4, 45, 190, 44, 190, 100, 54, 5, 45, 3, 25, 4, 3, 21, 5, 184, 0, 20, 21, 5, 54, 6]
abbrev dktX4_add_3 : List UInt8 := dkwX4_add_3 ++ dktX4_add_4
def dkwX4_add_2 : List UInt8 := [180, 0, 16, 78, 44, 190, 45, 190, 164, 0, 11, 44, 58, 4, 45, 77, 25, 4, 78, 45, 190, 188, 10]
abbrev dktX4_add_2 : List UInt8 := dkwX4_add_2 ++ dktX4_add_3
def dkwX4_add_1 : List UInt8 := [182, 0, 44, 153, 0, 5, 43, 176, 43, 182, 0, 44, 153, 0, 5, 42, 176, 42, 180, 0, 16, 77, 43]
abbrev dktX4_add_1 : List UInt8 := dkwX4_add_1 ++ dktX4_add_2
def dkwX4_add_0 : List UInt8 := [42, 180, 0, 10, 43, 180, 0, 10, 165, 0, 13, 187, 0, 7, 89, 18, 39, 183, 0, 41, 191, 42]
abbrev dktX4_add_0 : List UInt8 := dkwX4_add_0 ++ dktX4_add_1
theorem dksX4_add_0 : cX4_add.data.toList.drop 0 = dktX4_add_0 := by decide +kernel
theorem dksX4_add_1 : cX4_add.data.toList.drop 22 = dktX4_add_1 := dk_seg dksX4_add_0 22 rfl rfl
theorem dksX4_add_2 : cX4_add.data.toList.drop 45 = dktX4_add_2 := dk_seg dksX4_add_1 23 rfl rfl
theorem dksX4_add_3 : cX4_add.data.toList.drop 68 = dktX4_add_3 := dk_seg dksX4_add_2 23 rfl rfl
theorem dksX4_add_4 : cX4_add.data.toList.drop 91 = dktX4_add_4 := dk_seg dksX4_add_3 23 rfl rfl
theorem dksX4_add_5 : cX4_add.data.toList.drop 114 = dktX4_add_5 := dk_seg dksX4_add_4 23 rfl rfl
theorem dksX4_add_6 : cX4_add.data.toList.drop 137 = dktX4_add_6 := dk_seg dksX4_add_5 23 rfl rfl
theorem dX4_add_0 : decode cX4_add 0 = .ok (.aload_n 0, 1) := dk_42 (dk_at dksX4_add_0 0 rfl rfl)
theorem dX4_add_1 : decode cX4_add 1 = .ok (.getfield 10, 3) := dk_180 0 10 (dk_at dksX4_add_0 1 rfl rfl)
theorem dX4_add_4 : decode cX4_add 4 = .ok (.aload_n 1, 1) := dk_43 (dk_at dksX4_add_0 4 rfl rfl)
theorem dX4_add_5 : decode cX4_add 5 = .ok (.getfield 10, 3) := dk_180 0 10 (dk_at dksX4_add_0 5 rfl rfl)
theorem dX4_add_8 : decode cX4_add 8 = .ok (.if_acmp .eq 13, 3) := dk_165 0 13 (dk_at dksX4_add_0 8 rfl rfl)
theorem dX4_add_11 : decode cX4_add 11 = .ok (.new 7, 3) := dk_187 0 7 (dk_at dksX4_add_0 11 rfl rfl)
theorem dX4_add_14 : decode cX4_add 14 = .ok (.dup, 1) := dk_89 (dk_at dksX4_add_0 14 rfl rfl)
theorem dX4_add_15 : decode cX4_add 15 = .ok (.ldc 39, 2) := dk_18 39 (dk_at dksX4_add_0 15 rfl rfl)
theorem dX4_add_17 : decode cX4_add 17 = .ok (.invokespecial 41, 3) := dk_183 0 41 (dk_at dksX4_add_0 17 rfl rfl)
theorem dX4_add_20 : decode cX4_add 20 = .ok (.athrow, 1) := dk_191 (dk_at dksX4_add_0 20 rfl rfl)
theorem dX4_add_21 : decode cX4_add 21 = .ok (.aload_n 0, 1) := dk_42 (dk_at dksX4_add_0 21 rfl rfl)
theorem dX4_add_22 : decode cX4_add 22 = .ok (.invokevirtual 44, 3) := dk_182 0 44 (dk_at dksX4_add_1 0 rfl rfl)
theorem dX4_add_25 : decode cX4_add 25 = .ok (.ifCond .eq 5, 3) := dk_153 0 5 (dk_at dksX4_add_1 3 rfl rfl)
theorem dX4_add_28 : decode cX4_add 28 = .ok (.aload_n 1, 1) := dk_43 (dk_at dksX4_add_1 6 rfl rfl)
theorem dX4_add_29 : decode cX4_add 29 = .ok (.areturn, 1) := dk_176 (dk_at dksX4_add_1 7 rfl rfl)
theorem dX4_add_30 : decode cX4_add 30 = .ok (.aload_n 1, 1) := dk_43 (dk_at dksX4_add_1 8 rfl rfl)
theorem dX4_add_31 : decode cX4_add 31 = .ok (.invokevirtual 44, 3) := dk_182 0 44 (dk_at dksX4_add_1 9 rfl rfl)
theorem dX4_add_34 : decode cX4_add 34 = .ok (.ifCond .eq 5, 3) := dk_153 0 5 (dk_at dksX4_add_1 12 rfl rfl)
theorem dX4_add_37 : decode cX4_add 37 = .ok (.aload_n 0, 1) := dk_42 (dk_at dksX4_add_1 15 rfl rfl)
theorem dX4_add_38 : decode cX4_add 38 = .ok (.areturn, 1) := dk_176 (dk_at dksX4_add_1 16 rfl rfl)
theorem dX4_add_39 : decode cX4_add 39 = .ok (.aload_n 0, 1) := dk_42 (dk_at dksX4_add_1 17 rfl rfl)
theorem dX4_add_40 : decode cX4_add 40 = .ok (.getfield 16, 3) := dk_180 0 16 (dk_at dksX4_add_1 18 rfl rfl)
theorem dX4_add_43 : decode cX4_add 43 = .ok (.astore_n 2, 1) := dk_77 (dk_at dksX4_add_1 21 rfl rfl)
theorem dX4_add_44 : decode cX4_add 44 = .ok (.aload_n 1, 1) := dk_43 (dk_at dksX4_add_1 22 rfl rfl)
theorem dX4_add_45 : decode cX4_add 45 = .ok (.getfield 16, 3) := dk_180 0 16 (dk_at dksX4_add_2 0 rfl rfl)
theorem dX4_add_48 : decode cX4_add 48 = .ok (.astore_n 3, 1) := dk_78 (dk_at dksX4_add_2 3 rfl rfl)
theorem dX4_add_49 : decode cX4_add 49 = .ok (.aload_n 2, 1) := dk_44 (dk_at dksX4_add_2 4 rfl rfl)
theorem dX4_add_50 : decode cX4_add 50 = .ok (.arraylength, 1) := dk_190 (dk_at dksX4_add_2 5 rfl rfl)
theorem dX4_add_51 : decode cX4_add 51 = .ok (.aload_n 3, 1) := dk_45 (dk_at dksX4_add_2 6 rfl rfl)
theorem dX4_add_52 : decode cX4_add 52 = .ok (.arraylength, 1) := dk_190 (dk_at dksX4_add_2 7 rfl rfl)
theorem dX4_add_53 : decode cX4_add 53 = .ok (.if_icmp .le 11, 3) := dk_164 0 11 (dk_at dksX4_add_2 8 rfl rfl)
theorem dX4_add_56 : decode cX4_add 56 = .ok (.aload_n 2, 1) := dk_44 (dk_at dksX4_add_2 11 rfl rfl)
theorem dX4_add_57 : decode cX4_add 57 = .ok (.astore 4, 2) := dk_58 4 (dk_at dksX4_add_2 12 rfl rfl)
theorem dX4_add_59 : decode cX4_add 59 = .ok (.aload_n 3, 1) := dk_45 (dk_at dksX4_add_2 14 rfl rfl)
theorem dX4_add_60 : decode cX4_add 60 = .ok (.astore_n 2, 1) := dk_77 (dk_at dksX4_add_2 15 rfl rfl)
theorem dX4_add_61 : decode cX4_add 61 = .ok (.aload 4, 2) := dk_25 4 (dk_at dksX4_add_2 16 rfl rfl)
theorem dX4_add_63 : decode cX4_add 63 = .ok (.astore_n 3, 1) := dk_78 (dk_at dksX4_add_2 18 rfl rfl)
theorem dX4_add_64 : decode cX4_add 64 = .ok (.aload_n 3, 1) := dk_45 (dk_at dksX4_add_2 19 rfl rfl)
theorem dX4_add_65 : decode cX4_add 65 = .ok (.arraylength, 1) := dk_190 (dk_at dksX4_add_2 20 rfl rfl)
theorem dX4_add_66 : decode cX4_add 66 = .ok (.newarray .int, 2) := dk_188_10 (dk_at dksX4_add_2 21 rfl rfl)
theorem dX4_add_68 : decode cX4_add 68 = .ok (.astore 4, 2) := dk_58 4 (dk_at dksX4_add_3 0 rfl rfl)
theorem dX4_add_70 : decode cX4_add 70 = .ok (.aload_n 3, 1) := dk_45 (dk_at dksX4_add_3 2 rfl rfl)
theorem dX4_add_71 : decode cX4_add 71 = .ok (.arraylength, 1) := dk_190 (dk_at dksX4_add_3 3 rfl rfl)
theorem dX4_add_72 : decode cX4_add 72 = .ok (.aload_n 2, 1) := dk_44 (dk_at dksX4_add_3 4 rfl rfl)
theorem dX4_add_73 : decode cX4_add 73 = .ok (.arraylength, 1) := dk_190 (dk_at dksX4_add_3 5 rfl rfl)
theorem dX4_add_74 : decode cX4_add 74 = .ok (.isub, 1) := dk_100 (dk_at dksX4_add_3 6 rfl rfl)
theorem dX4_add_75 : decode cX4_add 75 = .ok (.istore 5, 2) := dk_54 5 (dk_at dksX4_add_3 7 rfl rfl)
theorem dX4_add_77 : decode cX4_add 77 = .ok (.aload_n 3, 1) := dk_45 (dk_at dksX4_add_3 9 rfl rfl)
theorem dX4_add_78 : decode cX4_add 78 = .ok (.iconst 0, 1) := dk_3 (dk_at dksX4_add_3 10 rfl rfl)
theorem dX4_add_79 : decode cX4_add 79 = .ok (.aload 4, 2) := dk_25 4 (dk_at dksX4_add_3 11 rfl rfl)
theorem dX4_add_81 : decode cX4_add 81 = .ok (.iconst 0, 1) := dk_3 (dk_at dksX4_add_3 13 rfl rfl)
theorem dX4_add_82 : decode cX4_add 82 = .ok (.iload 5, 2) := dk_21 5 (dk_at dksX4_add_3 14 rfl rfl)
theorem dX4_add_84 : decode cX4_add 84 = .ok (.invokestatic 20, 3) := dk_184 0 20 (dk_at dksX4_add_3 16 rfl rfl)
theorem dX4_add_87 : decode cX4_add 87 = .ok (.iload 5, 2) := dk_21 5 (dk_at dksX4_add_3 19 rfl rfl)
theorem dX4_add_89 : decode cX4_add 89 = .ok (.istore 6, 2) := dk_54 6 (dk_at dksX4_add_3 21 rfl rfl)
theorem dX4_add_91 : decode cX4_add 91 = .ok (.iload 6, 2) := dk_21 6 (dk_at dksX4_add_4 0 rfl rfl)
theorem dX4_add_93 : decode cX4_add 93 = .ok (.aload_n 3, 1) := dk_45 (dk_at dksX4_add_4 2 rfl rfl)
theorem dX4_add_94 : decode cX4_add 94 = .ok (.arraylength, 1) := dk_190 (dk_at dksX4_add_4 3 rfl rfl)
theorem dX4_add_95 : decode cX4_add 95 = .ok (.if_icmp .ge 32, 3) := dk_162 0 32 (dk_at dksX4_add_4 4 rfl rfl)
theorem dX4_add_98 : decode cX4_add 98 = .ok (.aload 4, 2) := dk_25 4 (dk_at dksX4_add_4 7 rfl rfl)
theorem dX4_add_100 : decode cX4_add 100 = .ok (.iload 6, 2) := dk_21 6 (dk_at dksX4_add_4 9 rfl rfl)
theorem dX4_add_102 : decode cX4_add 102 = .ok (.aload_n 0, 1) := dk_42 (dk_at dksX4_add_4 11 rfl rfl)
theorem dX4_add_103 : decode cX4_add 103 = .ok (.getfield 10, 3) := dk_180 0 10 (dk_at dksX4_add_4 12 rfl rfl)
theorem dX4_add_106 : decode cX4_add 106 = .ok (.aload_n 2, 1) := dk_44 (dk_at dksX4_add_4 15 rfl rfl)
theorem dX4_add_107 : decode cX4_add 107 = .ok (.iload 6, 2) := dk_21 6 (dk_at dksX4_add_4 16 rfl rfl)
theorem dX4_add_109 : decode cX4_add 109 = .ok (.iload 5, 2) := dk_21 5 (dk_at dksX4_add_4 18 rfl rfl)
theorem dX4_add_111 : decode cX4_add 111 = .ok (.isub, 1) := dk_100 (dk_at dksX4_add_4 20 rfl rfl)
theorem dX4_add_112 : decode cX4_add 112 = .ok (.iaload, 1) := dk_46 (dk_at dksX4_add_4 21 rfl rfl)
theorem dX4_add_113 : decode cX4_add 113 = .ok (.aload_n 3, 1) := dk_45 (dk_at dksX4_add_4 22 rfl rfl)
theorem dX4_add_114 : decode cX4_add 114 = .ok (.iload 6, 2) := dk_21 6 (dk_at dksX4_add_5 0 rfl rfl)
theorem dX4_add_116 : decode cX4_add 116 = .ok (.iaload, 1) := dk_46 (dk_at dksX4_add_5 2 rfl rfl)
theorem dX4_add_117 : decode cX4_add 117 = .ok (.invokevirtual 30, 3) := dk_182 0 30 (dk_at dksX4_add_5 3 rfl rfl)
theorem dX4_add_120 : decode cX4_add 120 = .ok (.iastore, 1) := dk_79 (dk_at dksX4_add_5 6 rfl rfl)
theorem dX4_add_121 : decode cX4_add 121 = .ok (.iinc 6 1, 3) := dk_132 6 1 (dk_at dksX4_add_5 7 rfl rfl)
theorem dX4_add_124 : decode cX4_add 124 = .ok (.goto (-33), 3) := dk_167 255 223 (dk_at dksX4_add_5 10 rfl rfl)
theorem dX4_add_127 : decode cX4_add 127 = .ok (.new 11, 3) := dk_187 0 11 (dk_at dksX4_add_5 13 rfl rfl)
theorem dX4_add_130 : decode cX4_add 130 = .ok (.dup, 1) := dk_89 (dk_at dksX4_add_5 16 rfl rfl)
theorem dX4_add_131 : decode cX4_add 131 = .ok (.aload_n 0, 1) := dk_42 (dk_at dksX4_add_5 17 rfl rfl)
theorem dX4_add_132 : decode cX4_add 132 = .ok (.getfield 10, 3) := dk_180 0 10 (dk_at dksX4_add_5 18 rfl rfl)
theorem dX4_add_135 : decode cX4_add 135 = .ok (.aload 4, 2) := dk_25 4 (dk_at dksX4_add_5 21 rfl rfl)
theorem dX4_add_137 : decode cX4_add 137 = .ok (.invokespecial 48, 3) := dk_183 0 48 (dk_at dksX4_add_6 0 rfl rfl)
theorem dX4_add_140 : decode cX4_add 140 = .ok (.areturn, 1) := dk_176 (dk_at dksX4_add_6 3 rfl rfl)
abbrev cX4_multiplyByMonomial : ByteArray := prog_4_method_11_code
def yX4_multiplyByMonomial : MethodName := ⟨RX4, "multiplyByMonomial", "(II)LModulusPoly;"⟩
def dkwX4_multiplyByMonomial_3 : List UInt8 := [187, 0, 11, 89, 42, 180, 0, 10, 25, 4, 183, 0, 48, 176]
abbrev dktX4_multiplyByMonomial_3 : List UInt8 := dkwX4_multiplyByMonomial_3 ++ []
def dkwX4_multiplyByMonomial_2 : List UInt8 := [21, 5, 42, 180, 0, 10, 42, 180, 0, 16, 21, 5, 46, 28, 182, 0, 36, 79, 132, 5, 1, 167, 255, 227]
abbrev dktX4_multiplyByMonomial_2 : List UInt8 := dkwX4_multiplyByMonomial_2 ++ dktX4_multiplyByMonomial_3
def dkwX4_multiplyByMonomial_1 : List UInt8 := [42, 180, 0, 16, 190, 62, 29, 27, 96, 188, 10, 58, 4, 3, 54, 5, 21, 5, 29, 162, 0, 29, 25, 4]
abbrev dktX4_multiplyByMonomial_1 : List UInt8 := dkwX4_multiplyByMonomial_1 ++ dktX4_multiplyByMonomial_2
def dkwX4_multiplyByMonomial_0 : List UInt8 := [27, 156, 0, 11, 187, 0, 7, 89, 183, 0, 9, 191, 28, 154, 0, 11, 42, 180, 0, 10, 182, 0, 58, 176]
abbrev dktX4_multiplyByMonomial_0 : List UInt8 := dkwX4_multiplyByMonomial_0 ++ dktX4_multiplyByMonomial_1
theorem dksX4_multiplyByMonomial_0 : cX4_multiplyByMonomial.data.toList.drop 0 = dktX4_multiplyByMonomial_0 := by decide +kernel
theorem dksX4_multiplyByMonomial_1 : cX4_multiplyByMonomial.data.toList.drop 24 = dktX4_multiplyByMonomial_1 := dk_seg dksX4_multiplyByMonomial_0 24 rfl rfl
theorem dksX4_multiplyByMonomial_2 : cX4_multiplyByMonomial.data.toList.drop 48 = dktX4_multiplyByMonomial_2 := dk_seg dksX4_multiplyByMonomial_1 24 rfl rfl
theorem dksX4_multiplyByMonomial_3 : cX4_multiplyByMonomial.data.toList.drop 72 = dktX4_multiplyByMonomial_3 := dk_seg dksX4_multiplyByMonomial_2 24 rfl rfl
theorem dX4_multiplyByMonomial_0 : decode cX4_multiplyByMonomial 0 = .ok (.iload_n 1, 1) := dk_27 (dk_at dksX4_multiplyByMonomial_0 0 rfl rfl)
theorem dX4_multiplyByMonomial_1 : decode cX4_multiplyByMonomial 1 = .ok (.ifCond .ge 11, 3) := dk_156 0 11 (dk_at dksX4_multiplyByMonomial_0 1 rfl rfl)
theorem dX4_multiplyByMonomial_4 : decode cX4_multiplyByMonomial 4 = .ok (.new 7, 3) := dk_187 0 7 (dk_at dksX4_multiplyByMonomial_0 4 rfl rfl)
theorem dX4_multiplyByMonomial_7 : decode cX4_multiplyByMonomial 7 = .ok (.dup, 1) := dk_89 (dk_at dksX4_multiplyByMonomial_0 7 rfl rfl)
theorem dX4_multiplyByMonomial_8 : decode cX4_multiplyByMonomial 8 = .ok (.invokespecial 9, 3) := dk_183 0 9 (dk_at dksX4_multiplyByMonomial_0 8 rfl rfl)
theorem dX4_multiplyByMonomial_11 : decode cX4_multiplyByMonomial 11 = .ok (.athrow, 1) := dk_191 (dk_at dksX4_multiplyByMonomial_0 11 rfl rfl)
theorem dX4_multiplyByMonomial_12 : decode cX4_multiplyByMonomial 12 = .ok (.iload_n 2, 1) := dk_28 (dk_at dksX4_multiplyByMonomial_0 12 rfl rfl)
theorem dX4_multiplyByMonomial_13 : decode cX4_multiplyByMonomial 13 = .ok (.ifCond .ne 11, 3) := dk_154 0 11 (dk_at dksX4_multiplyByMonomial_0 13 rfl rfl)
theorem dX4_multiplyByMonomial_16 : decode cX4_multiplyByMonomial 16 = .ok (.aload_n 0, 1) := dk_42 (dk_at dksX4_multiplyByMonomial_0 16 rfl rfl)
theorem dX4_multiplyByMonomial_17 : decode cX4_multiplyByMonomial 17 = .ok (.getfield 10, 3) := dk_180 0 10 (dk_at dksX4_multiplyByMonomial_0 17 rfl rfl)
theorem dX4_multiplyByMonomial_20 : decode cX4_multiplyByMonomial 20 = .ok (.invokevirtual 58, 3) := dk_182 0 58 (dk_at dksX4_multiplyByMonomial_0 20 rfl rfl)
theorem dX4_multiplyByMonomial_23 : decode cX4_multiplyByMonomial 23 = .ok (.areturn, 1) := dk_176 (dk_at dksX4_multiplyByMonomial_0 23 rfl rfl)
theorem dX4_multiplyByMonomial_24 : decode cX4_multiplyByMonomial 24 = .ok (.aload_n 0, 1) := dk_42 (dk_at dksX4_multiplyByMonomial_1 0 rfl rfl)
theorem dX4_multiplyByMonomial_25 : decode cX4_multiplyByMonomial 25 = .ok (.getfield 16, 3) := dk_180 0 16 (dk_at dksX4_multiplyByMonomial_1 1 rfl rfl)
theorem dX4_multiplyByMonomial_28 : decode cX4_multiplyByMonomial 28 = .ok (.arraylength, 1) := dk_190 (dk_at dksX4_multiplyByMonomial_1 4 rfl rfl)
theorem dX4_multiplyByMonomial_29 : decode cX4_multiplyByMonomial 29 = .ok (.istore_n 3, 1) := dk_62 (dk_at dksX4_multiplyByMonomial_1 5 rfl rfl)
theorem dX4_multiplyByMonomial_30 : decode cX4_multiplyByMonomial 30 = .ok (.iload_n 3, 1) := dk_29 (dk_at dksX4_multiplyByMonomial_1 6 rfl rfl)
theorem dX4_multiplyByMonomial_31 : decode cX4_multiplyByMonomial 31 = .ok (.iload_n 1, 1) := dk_27 (dk_at dksX4_multiplyByMonomial_1 7 rfl rfl)
theorem dX4_multiplyByMonomial_32 : decode cX4_multiplyByMonomial 32 = .ok (.iadd, 1) := dk_96 (dk_at dksX4_multiplyByMonomial_1 8 rfl rfl)
theorem dX4_multiplyByMonomial_33 : decode cX4_multiplyByMonomial 33 = .ok (.newarray .int, 2) := dk_188_10 (dk_at dksX4_multiplyByMonomial_1 9 rfl rfl)
theorem dX4_multiplyByMonomial_35 : decode cX4_multiplyByMonomial 35 = .ok (.astore 4, 2) := dk_58 4 (dk_at dksX4_multiplyByMonomial_1 11 rfl rfl)
theorem dX4_multiplyByMonomial_37 : decode cX4_multiplyByMonomial 37 = .ok (.iconst 0, 1) := dk_3 (dk_at dksX4_multiplyByMonomial_1 13 rfl rfl)
theorem dX4_multiplyByMonomial_38 : decode cX4_multiplyByMonomial 38 = .ok (.istore 5, 2) := dk_54 5 (dk_at dksX4_multiplyByMonomial_1 14 rfl rfl)
theorem dX4_multiplyByMonomial_40 : decode cX4_multiplyByMonomial 40 = .ok (.iload 5, 2) := dk_21 5 (dk_at dksX4_multiplyByMonomial_1 16 rfl rfl)
theorem dX4_multiplyByMonomial_42 : decode cX4_multiplyByMonomial 42 = .ok (.iload_n 3, 1) := dk_29 (dk_at dksX4_multiplyByMonomial_1 18 rfl rfl)
theorem dX4_multiplyByMonomial_43 : decode cX4_multiplyByMonomial 43 = .ok (.if_icmp .ge 29, 3) := dk_162 0 29 (dk_at dksX4_multiplyByMonomial_1 19 rfl rfl)
theorem dX4_multiplyByMonomial_46 : decode cX4_multiplyByMonomial 46 = .ok (.aload 4, 2) := dk_25 4 (dk_at dksX4_multiplyByMonomial_1 22 rfl rfl)
theorem dX4_multiplyByMonomial_48 : decode cX4_multiplyByMonomial 48 = .ok (.iload 5, 2) := dk_21 5 (dk_at dksX4_multiplyByMonomial_2 0 rfl rfl)
theorem dX4_multiplyByMonomial_50 : decode cX4_multiplyByMonomial 50 = .ok (.aload_n 0, 1) := dk_42 (dk_at dksX4_multiplyByMonomial_2 2 rfl rfl)
theorem dX4_multiplyByMonomial_51 : decode cX4_multiplyByMonomial 51 = .ok (.getfield 10, 3) := dk_180 0 10 (dk_at dksX4_multiplyByMonomial_2 3 rfl rfl)
theorem dX4_multiplyByMonomial_54 : decode cX4_multiplyByMonomial 54 = .ok (.aload_n 0, 1) := dk_42 (dk_at dksX4_multiplyByMonomial_2 6 rfl rfl)
theorem dX4_multiplyByMonomial_55 : decode cX4_multiplyByMonomial 55 = .ok (.getfield 16, 3) := dk_180 0 16 (dk_at dksX4_multiplyByMonomial_2 7 rfl rfl)
theorem dX4_multiplyByMonomial_58 : decode cX4_multiplyByMonomial 58 = .ok (.iload 5, 2) := dk_21 5 (dk_at dksX4_multiplyByMonomial_2 10 rfl rfl)
theorem dX4_multiplyByMonomial_60 : decode cX4_multiplyByMonomial 60 = .ok (.iaload, 1) := dk_46 (dk_at dksX4_multiplyByMonomial_2 12 rfl rfl)
theorem dX4_multiplyByMonomial_61 : decode cX4_multiplyByMonomial 61 = .ok (.iload_n 2, 1) := dk_28 (dk_at dksX4_multiplyByMonomial_2 13 rfl rfl)
theorem dX4_multiplyByMonomial_62 : decode cX4_multiplyByMonomial 62 = .ok (.invokevirtual 36, 3) := dk_182 0 36 (dk_at dksX4_multiplyByMonomial_2 14 rfl rfl)
theorem dX4_multiplyByMonomial_65 : decode cX4_multiplyByMonomial 65 = .ok (.iastore, 1) := dk_79 (dk_at dksX4_multiplyByMonomial_2 17 rfl rfl)
theorem dX4_multiplyByMonomial_66 : decode cX4_multiplyByMonomial 66 = .ok (.iinc 5 1, 3) := dk_132 5 1 (dk_at dksX4_multiplyByMonomial_2 18 rfl rfl)
theorem dX4_multiplyByMonomial_69 : decode cX4_multiplyByMonomial 69 = .ok (.goto (-29), 3) := dk_167 255 227 (dk_at dksX4_multiplyByMonomial_2 21 rfl rfl)
theorem dX4_multiplyByMonomial_72 : decode cX4_multiplyByMonomial 72 = .ok (.new 11, 3) := dk_187 0 11 (dk_at dksX4_multiplyByMonomial_3 0 rfl rfl)
theorem dX4_multiplyByMonomial_75 : decode cX4_multiplyByMonomial 75 = .ok (.dup, 1) := dk_89 (dk_at dksX4_multiplyByMonomial_3 3 rfl rfl)
theorem dX4_multiplyByMonomial_76 : decode cX4_multiplyByMonomial 76 = .ok (.aload_n 0, 1) := dk_42 (dk_at dksX4_multiplyByMonomial_3 4 rfl rfl)
theorem dX4_multiplyByMonomial_77 : decode cX4_multiplyByMonomial 77 = .ok (.getfield 10, 3) := dk_180 0 10 (dk_at dksX4_multiplyByMonomial_3 5 rfl rfl)
theorem dX4_multiplyByMonomial_80 : decode cX4_multiplyByMonomial 80 = .ok (.aload 4, 2) := dk_25 4 (dk_at dksX4_multiplyByMonomial_3 8 rfl rfl)
theorem dX4_multiplyByMonomial_82 : decode cX4_multiplyByMonomial 82 = .ok (.invokespecial 48, 3) := dk_183 0 48 (dk_at dksX4_multiplyByMonomial_3 10 rfl rfl)
theorem dX4_multiplyByMonomial_85 : decode cX4_multiplyByMonomial 85 = .ok (.areturn, 1) := dk_176 (dk_at dksX4_multiplyByMonomial_3 13 rfl rfl)
abbrev cX4_subtract : ByteArray := prog_4_method_7_code
def yX4_subtract : MethodName := ⟨RX4, "subtract", "(LModulusPoly;)LModulusPoly;"⟩
def dkwX4_subtract_1 : List UInt8 := [182, 0, 44, 153, 0, 5, 42, 176, 42, 43, 182, 0, 51, 182, 0, 55, 176]
abbrev dktX4_subtract_1 : List UInt8 := dkwX4_subtract_1 ++ []
def dkwX4_subtract_0 : List UInt8 := [42, 180, 0, 10, 43, 180, 0, 10, 165, 0, 13, 187, 0, 7, 89, 18, 39, 183, 0, 41, 191, 43]
abbrev dktX4_subtract_0 : List UInt8 := dkwX4_subtract_0 ++ dktX4_subtract_1
theorem dksX4_subtract_0 : cX4_subtract.data.toList.drop 0 = dktX4_subtract_0 := by decide +kernel
theorem dksX4_subtract_1 : cX4_subtract.data.toList.drop 22 = dktX4_subtract_1 := dk_seg dksX4_subtract_0 22 rfl rfl
theorem dX4_subtract_0 : decode cX4_subtract 0 = .ok (.aload_n 0, 1) := dk_42 (dk_at dksX4_subtract_0 0 rfl rfl)
theorem dX4_subtract_1 : decode cX4_subtract 1 = .ok (.getfield 10, 3) := dk_180 0 10 (dk_at dksX4_subtract_0 1 rfl rfl)
theorem dX4_subtract_4 : decode cX4_subtract 4 = .ok (.aload_n 1, 1) := dk_43 (dk_at dksX4_subtract_0 4 rfl rfl)
theorem dX4_subtract_5 : decode cX4_subtract 5 = .ok (.getfield 10, 3) := dk_180 0 10 (dk_at dksX4_subtract_0 5 rfl rfl)
theorem dX4_subtract_8 : decode cX4_subtract 8 = .ok (.if_acmp .eq 13, 3) := dk_165 0 13 (dk_at dksX4_subtract_0 8 rfl rfl)
theorem dX4_subtract_11 : decode cX4_subtract 11 = .ok (.new 7, 3) := dk_187 0 7 (dk_at dksX4_subtract_0 11 rfl rfl)
theorem dX4_subtract_14 : decode cX4_subtract 14 = .ok (.dup, 1) := dk_89 (dk_at dksX4_subtract_0 14 rfl rfl)
theorem dX4_subtract_15 : decode cX4_subtract 15 = .ok (.ldc 39, 2) := dk_18 39 (dk_at dksX4_subtract_0 15 rfl rfl)
theorem dX4_subtract_17 : decode cX4_subtract 17 = .ok (.invokespecial 41, 3) := dk_183 0 41 (dk_at dksX4_subtract_0 17 rfl rfl)
theorem dX4_subtract_20 : decode cX4_subtract 20 = .ok (.athrow, 1) := dk_191 (dk_at dksX4_subtract_0 20 rfl rfl)
theorem dX4_subtract_21 : decode cX4_subtract 21 = .ok (.aload_n 1, 1) := dk_43 (dk_at dksX4_subtract_0 21 rfl rfl)
theorem dX4_subtract_22 : decode cX4_subtract 22 = .ok (.invokevirtual 44, 3) := dk_182 0 44 (dk_at dksX4_subtract_1 0 rfl rfl)
theorem dX4_subtract_25 : decode cX4_subtract 25 = .ok (.ifCond .eq 5, 3) := dk_153 0 5 (dk_at dksX4_subtract_1 3 rfl rfl)
theorem dX4_subtract_28 : decode cX4_subtract 28 = .ok (.aload_n 0, 1) := dk_42 (dk_at dksX4_subtract_1 6 rfl rfl)
theorem dX4_subtract_29 : decode cX4_subtract 29 = .ok (.areturn, 1) := dk_176 (dk_at dksX4_subtract_1 7 rfl rfl)
theorem dX4_subtract_30 : decode cX4_subtract 30 = .ok (.aload_n 0, 1) := dk_42 (dk_at dksX4_subtract_1 8 rfl rfl)
theorem dX4_subtract_31 : decode cX4_subtract 31 = .ok (.aload_n 1, 1) := dk_43 (dk_at dksX4_subtract_1 9 rfl rfl)
theorem dX4_subtract_32 : decode cX4_subtract 32 = .ok (.invokevirtual 51, 3) := dk_182 0 51 (dk_at dksX4_subtract_1 10 rfl rfl)
theorem dX4_subtract_35 : decode cX4_subtract 35 = .ok (.invokevirtual 55, 3) := dk_182 0 55 (dk_at dksX4_subtract_1 13 rfl rfl)
theorem dX4_subtract_38 : decode cX4_subtract 38 = .ok (.areturn, 1) := dk_176 (dk_at dksX4_subtract_1 16 rfl rfl)
abbrev cX4_negative : ByteArray := prog_4_method_9_code
def yX4_negative : MethodName := ⟨RX4, "negative", "()LModulusPoly;"⟩
def dkwX4_negative_2 : List UInt8 := [44, 183, 0, 48, 176]
abbrev dktX4_negative_2 : List UInt8 := dkwX4_negative_2 ++ []
def dkwX4_negative_1 : List UInt8 := [42, 180, 0, 16, 29, 46, 182, 0, 61, 79, 132, 3, 1, 167, 255, 231, 187, 0, 11, 89, 42, 180, 0, 10]
abbrev dktX4_negative_1 : List UInt8 := dkwX4_negative_1 ++ dktX4_negative_2
def dkwX4_negative_0 : List UInt8 := [42, 180, 0, 16, 190, 60, 27, 188, 10, 77, 3, 62, 29, 27, 162, 0, 26, 44, 29, 42, 180, 0, 10, 3]
abbrev dktX4_negative_0 : List UInt8 := dkwX4_negative_0 ++ dktX4_negative_1
theorem dksX4_negative_0 : cX4_negative.data.toList.drop 0 = dktX4_negative_0 := by decide +kernel
theorem dksX4_negative_1 : cX4_negative.data.toList.drop 24 = dktX4_negative_1 := dk_seg dksX4_negative_0 24 rfl rfl
theorem dksX4_negative_2 : cX4_negative.data.toList.drop 48 = dktX4_negative_2 := dk_seg dksX4_negative_1 24 rfl rfl
theorem dX4_negative_0 : decode cX4_negative 0 = .ok (.aload_n 0, 1) := dk_42 (dk_at dksX4_negative_0 0 rfl rfl)
theorem dX4_negative_1 : decode cX4_negative 1 = .ok (.getfield 16, 3) := dk_180 0 16 (dk_at dksX4_negative_0 1 rfl rfl)
theorem dX4_negative_4 : decode cX4_negative 4 = .ok (.arraylength, 1) := dk_190 (dk_at dksX4_negative_0 4 rfl rfl)
theorem dX4_negative_5 : decode cX4_negative 5 = .ok (.istore_n 1, 1) := dk_60 (dk_at dksX4_negative_0 5 rfl rfl)
theorem dX4_negative_6 : decode cX4_negative 6 = .ok (.iload_n 1, 1) := dk_27 (dk_at dksX4_negative_0 6 rfl rfl)
theorem dX4_negative_7 : decode cX4_negative 7 = .ok (.newarray .int, 2) := dk_188_10 (dk_at dksX4_negative_0 7 rfl rfl)
theorem dX4_negative_9 : decode cX4_negative 9 = .ok (.astore_n 2, 1) := dk_77 (dk_at dksX4_negative_0 9 rfl rfl)
theorem dX4_negative_10 : decode cX4_negative 10 = .ok (.iconst 0, 1) := dk_3 (dk_at dksX4_negative_0 10 rfl rfl)
theorem dX4_negative_11 : decode cX4_negative 11 = .ok (.istore_n 3, 1) := dk_62 (dk_at dksX4_negative_0 11 rfl rfl)
theorem dX4_negative_12 : decode cX4_negative 12 = .ok (.iload_n 3, 1) := dk_29 (dk_at dksX4_negative_0 12 rfl rfl)
theorem dX4_negative_13 : decode cX4_negative 13 = .ok (.iload_n 1, 1) := dk_27 (dk_at dksX4_negative_0 13 rfl rfl)
theorem dX4_negative_14 : decode cX4_negative 14 = .ok (.if_icmp .ge 26, 3) := dk_162 0 26 (dk_at dksX4_negative_0 14 rfl rfl)
theorem dX4_negative_17 : decode cX4_negative 17 = .ok (.aload_n 2, 1) := dk_44 (dk_at dksX4_negative_0 17 rfl rfl)
theorem dX4_negative_18 : decode cX4_negative 18 = .ok (.iload_n 3, 1) := dk_29 (dk_at dksX4_negative_0 18 rfl rfl)
theorem dX4_negative_19 : decode cX4_negative 19 = .ok (.aload_n 0, 1) := dk_42 (dk_at dksX4_negative_0 19 rfl rfl)
theorem dX4_negative_20 : decode cX4_negative 20 = .ok (.getfield 10, 3) := dk_180 0 10 (dk_at dksX4_negative_0 20 rfl rfl)
theorem dX4_negative_23 : decode cX4_negative 23 = .ok (.iconst 0, 1) := dk_3 (dk_at dksX4_negative_0 23 rfl rfl)
theorem dX4_negative_24 : decode cX4_negative 24 = .ok (.aload_n 0, 1) := dk_42 (dk_at dksX4_negative_1 0 rfl rfl)
theorem dX4_negative_25 : decode cX4_negative 25 = .ok (.getfield 16, 3) := dk_180 0 16 (dk_at dksX4_negative_1 1 rfl rfl)
theorem dX4_negative_28 : decode cX4_negative 28 = .ok (.iload_n 3, 1) := dk_29 (dk_at dksX4_negative_1 4 rfl rfl)
theorem dX4_negative_29 : decode cX4_negative 29 = .ok (.iaload, 1) := dk_46 (dk_at dksX4_negative_1 5 rfl rfl)
theorem dX4_negative_30 : decode cX4_negative 30 = .ok (.invokevirtual 61, 3) := dk_182 0 61 (dk_at dksX4_negative_1 6 rfl rfl)
theorem dX4_negative_33 : decode cX4_negative 33 = .ok (.iastore, 1) := dk_79 (dk_at dksX4_negative_1 9 rfl rfl)
theorem dX4_negative_34 : decode cX4_negative 34 = .ok (.iinc 3 1, 3) := dk_132 3 1 (dk_at dksX4_negative_1 10 rfl rfl)
theorem dX4_negative_37 : decode cX4_negative 37 = .ok (.goto (-25), 3) := dk_167 255 231 (dk_at dksX4_negative_1 13 rfl rfl)
theorem dX4_negative_40 : decode cX4_negative 40 = .ok (.new 11, 3) := dk_187 0 11 (dk_at dksX4_negative_1 16 rfl rfl)
theorem dX4_negative_43 : decode cX4_negative 43 = .ok (.dup, 1) := dk_89 (dk_at dksX4_negative_1 19 rfl rfl)
theorem dX4_negative_44 : decode cX4_negative 44 = .ok (.aload_n 0, 1) := dk_42 (dk_at dksX4_negative_1 20 rfl rfl)
theorem dX4_negative_45 : decode cX4_negative 45 = .ok (.getfield 10, 3) := dk_180 0 10 (dk_at dksX4_negative_1 21 rfl rfl)
theorem dX4_negative_48 : decode cX4_negative 48 = .ok (.aload_n 2, 1) := dk_44 (dk_at dksX4_negative_2 0 rfl rfl)
theorem dX4_negative_49 : decode cX4_negative 49 = .ok (.invokespecial 48, 3) := dk_183 0 48 (dk_at dksX4_negative_2 1 rfl rfl)
theorem dX4_negative_52 : decode cX4_negative 52 = .ok (.areturn, 1) := dk_176 (dk_at dksX4_negative_2 4 rfl rfl)
abbrev cX4_multiply_2 : ByteArray := prog_4_method_10_code
def yX4_multiply_2 : MethodName := ⟨RX4, "multiply", "(I)LModulusPoly;"⟩
def dkwX4_multiply_2_3 : List UInt8 := [180, 0, 10, 45, 183, 0, 48, 176]
abbrev dktX4_multiply_2_3 : List UInt8 := dkwX4_multiply_2_3 ++ []
def dkwX4_multiply_2_2 : List UInt8 := [180, 0, 16, 21, 4, 46, 27, 182, 0, 36, 79, 132, 4, 1, 167, 255, 228, 187, 0, 11, 89, 42]
abbrev dktX4_multiply_2_2 : List UInt8 := dkwX4_multiply_2_2 ++ dktX4_multiply_2_3
def dkwX4_multiply_2_1 : List UInt8 := [61, 28, 188, 10, 78, 3, 54, 4, 21, 4, 28, 162, 0, 28, 45, 21, 4, 42, 180, 0, 10, 42]
abbrev dktX4_multiply_2_1 : List UInt8 := dkwX4_multiply_2_1 ++ dktX4_multiply_2_2
def dkwX4_multiply_2_0 : List UInt8 := [27, 154, 0, 11, 42, 180, 0, 10, 182, 0, 58, 176, 27, 4, 160, 0, 5, 42, 176, 42, 180, 0, 16, 190]
abbrev dktX4_multiply_2_0 : List UInt8 := dkwX4_multiply_2_0 ++ dktX4_multiply_2_1
theorem dksX4_multiply_2_0 : cX4_multiply_2.data.toList.drop 0 = dktX4_multiply_2_0 := by decide +kernel
theorem dksX4_multiply_2_1 : cX4_multiply_2.data.toList.drop 24 = dktX4_multiply_2_1 := dk_seg dksX4_multiply_2_0 24 rfl rfl
theorem dksX4_multiply_2_2 : cX4_multiply_2.data.toList.drop 46 = dktX4_multiply_2_2 := dk_seg dksX4_multiply_2_1 22 rfl rfl
theorem dksX4_multiply_2_3 : cX4_multiply_2.data.toList.drop 68 = dktX4_multiply_2_3 := dk_seg dksX4_multiply_2_2 22 rfl rfl
theorem dX4_multiply_2_0 : decode cX4_multiply_2 0 = .ok (.iload_n 1, 1) := dk_27 (dk_at dksX4_multiply_2_0 0 rfl rfl)
theorem dX4_multiply_2_1 : decode cX4_multiply_2 1 = .ok (.ifCond .ne 11, 3) := dk_154 0 11 (dk_at dksX4_multiply_2_0 1 rfl rfl)
theorem dX4_multiply_2_4 : decode cX4_multiply_2 4 = .ok (.aload_n 0, 1) := dk_42 (dk_at dksX4_multiply_2_0 4 rfl rfl)
theorem dX4_multiply_2_5 : decode cX4_multiply_2 5 = .ok (.getfield 10, 3) := dk_180 0 10 (dk_at dksX4_multiply_2_0 5 rfl rfl)
theorem dX4_multiply_2_8 : decode cX4_multiply_2 8 = .ok (.invokevirtual 58, 3) := dk_182 0 58 (dk_at dksX4_multiply_2_0 8 rfl rfl)
theorem dX4_multiply_2_11 : decode cX4_multiply_2 11 = .ok (.areturn, 1) := dk_176 (dk_at dksX4_multiply_2_0 11 rfl rfl)
theorem dX4_multiply_2_12 : decode cX4_multiply_2 12 = .ok (.iload_n 1, 1) := dk_27 (dk_at dksX4_multiply_2_0 12 rfl rfl)
theorem dX4_multiply_2_13 : decode cX4_multiply_2 13 = .ok (.iconst 1, 1) := dk_4 (dk_at dksX4_multiply_2_0 13 rfl rfl)
theorem dX4_multiply_2_14 : decode cX4_multiply_2 14 = .ok (.if_icmp .ne 5, 3) := dk_160 0 5 (dk_at dksX4_multiply_2_0 14 rfl rfl)
theorem dX4_multiply_2_17 : decode cX4_multiply_2 17 = .ok (.aload_n 0, 1) := dk_42 (dk_at dksX4_multiply_2_0 17 rfl rfl)
theorem dX4_multiply_2_18 : decode cX4_multiply_2 18 = .ok (.areturn, 1) := dk_176 (dk_at dksX4_multiply_2_0 18 rfl rfl)
theorem dX4_multiply_2_19 : decode cX4_multiply_2 19 = .ok (.aload_n 0, 1) := dk_42 (dk_at dksX4_multiply_2_0 19 rfl rfl)
theorem dX4_multiply_2_20 : decode cX4_multiply_2 20 = .ok (.getfield 16, 3) := dk_180 0 16 (dk_at dksX4_multiply_2_0 20 rfl rfl)
theorem dX4_multiply_2_23 : decode cX4_multiply_2 23 = .ok (.arraylength, 1) := dk_190 (dk_at dksX4_multiply_2_0 23 rfl rfl)
theorem dX4_multiply_2_24 : decode cX4_multiply_2 24 = .ok (.istore_n 2, 1) := dk_61 (dk_at dksX4_multiply_2_1 0 rfl rfl)
theorem dX4_multiply_2_25 : decode cX4_multiply_2 25 = .ok (.iload_n 2, 1) := dk_28 (dk_at dksX4_multiply_2_1 1 rfl rfl)
theorem dX4_multiply_2_26 : decode cX4_multiply_2 26 = .ok (.newarray .int, 2) := dk_188_10 (dk_at dksX4_multiply_2_1 2 rfl rfl)
theorem dX4_multiply_2_28 : decode cX4_multiply_2 28 = .ok (.astore_n 3, 1) := dk_78 (dk_at dksX4_multiply_2_1 4 rfl rfl)
theorem dX4_multiply_2_29 : decode cX4_multiply_2 29 = .ok (.iconst 0, 1) := dk_3 (dk_at dksX4_multiply_2_1 5 rfl rfl)
theorem dX4_multiply_2_30 : decode cX4_multiply_2 30 = .ok (.istore 4, 2) := dk_54 4 (dk_at dksX4_multiply_2_1 6 rfl rfl)
theorem dX4_multiply_2_32 : decode cX4_multiply_2 32 = .ok (.iload 4, 2) := dk_21 4 (dk_at dksX4_multiply_2_1 8 rfl rfl)
theorem dX4_multiply_2_34 : decode cX4_multiply_2 34 = .ok (.iload_n 2, 1) := dk_28 (dk_at dksX4_multiply_2_1 10 rfl rfl)
theorem dX4_multiply_2_35 : decode cX4_multiply_2 35 = .ok (.if_icmp .ge 28, 3) := dk_162 0 28 (dk_at dksX4_multiply_2_1 11 rfl rfl)
theorem dX4_multiply_2_38 : decode cX4_multiply_2 38 = .ok (.aload_n 3, 1) := dk_45 (dk_at dksX4_multiply_2_1 14 rfl rfl)
theorem dX4_multiply_2_39 : decode cX4_multiply_2 39 = .ok (.iload 4, 2) := dk_21 4 (dk_at dksX4_multiply_2_1 15 rfl rfl)
theorem dX4_multiply_2_41 : decode cX4_multiply_2 41 = .ok (.aload_n 0, 1) := dk_42 (dk_at dksX4_multiply_2_1 17 rfl rfl)
theorem dX4_multiply_2_42 : decode cX4_multiply_2 42 = .ok (.getfield 10, 3) := dk_180 0 10 (dk_at dksX4_multiply_2_1 18 rfl rfl)
theorem dX4_multiply_2_45 : decode cX4_multiply_2 45 = .ok (.aload_n 0, 1) := dk_42 (dk_at dksX4_multiply_2_1 21 rfl rfl)
theorem dX4_multiply_2_46 : decode cX4_multiply_2 46 = .ok (.getfield 16, 3) := dk_180 0 16 (dk_at dksX4_multiply_2_2 0 rfl rfl)
theorem dX4_multiply_2_49 : decode cX4_multiply_2 49 = .ok (.iload 4, 2) := dk_21 4 (dk_at dksX4_multiply_2_2 3 rfl rfl)
theorem dX4_multiply_2_51 : decode cX4_multiply_2 51 = .ok (.iaload, 1) := dk_46 (dk_at dksX4_multiply_2_2 5 rfl rfl)
theorem dX4_multiply_2_52 : decode cX4_multiply_2 52 = .ok (.iload_n 1, 1) := dk_27 (dk_at dksX4_multiply_2_2 6 rfl rfl)
theorem dX4_multiply_2_53 : decode cX4_multiply_2 53 = .ok (.invokevirtual 36, 3) := dk_182 0 36 (dk_at dksX4_multiply_2_2 7 rfl rfl)
theorem dX4_multiply_2_56 : decode cX4_multiply_2 56 = .ok (.iastore, 1) := dk_79 (dk_at dksX4_multiply_2_2 10 rfl rfl)
theorem dX4_multiply_2_57 : decode cX4_multiply_2 57 = .ok (.iinc 4 1, 3) := dk_132 4 1 (dk_at dksX4_multiply_2_2 11 rfl rfl)
theorem dX4_multiply_2_60 : decode cX4_multiply_2 60 = .ok (.goto (-28), 3) := dk_167 255 228 (dk_at dksX4_multiply_2_2 14 rfl rfl)
theorem dX4_multiply_2_63 : decode cX4_multiply_2 63 = .ok (.new 11, 3) := dk_187 0 11 (dk_at dksX4_multiply_2_2 17 rfl rfl)
theorem dX4_multiply_2_66 : decode cX4_multiply_2 66 = .ok (.dup, 1) := dk_89 (dk_at dksX4_multiply_2_2 20 rfl rfl)
theorem dX4_multiply_2_67 : decode cX4_multiply_2 67 = .ok (.aload_n 0, 1) := dk_42 (dk_at dksX4_multiply_2_2 21 rfl rfl)
theorem dX4_multiply_2_68 : decode cX4_multiply_2 68 = .ok (.getfield 10, 3) := dk_180 0 10 (dk_at dksX4_multiply_2_3 0 rfl rfl)
theorem dX4_multiply_2_71 : decode cX4_multiply_2 71 = .ok (.aload_n 3, 1) := dk_45 (dk_at dksX4_multiply_2_3 3 rfl rfl)
theorem dX4_multiply_2_72 : decode cX4_multiply_2 72 = .ok (.invokespecial 48, 3) := dk_183 0 48 (dk_at dksX4_multiply_2_3 4 rfl rfl)
theorem dX4_multiply_2_75 : decode cX4_multiply_2 75 = .ok (.areturn, 1) := dk_176 (dk_at dksX4_multiply_2_3 7 rfl rfl)
theorem q8 : (Jvm.Cond.initialized "ModulusPoly") ∈ lw_all := lw_g (lw_at lw_m1 4 rfl) rfl
theorem q95 : (Jvm.Cond.instantiable "ModulusPoly" (2 : Nat)) ∈ lw_all := lw_g (lw_at lw_m1 91 rfl) rfl
theorem q97 : (Jvm.Cond.instanceMethod ({ cls := "ModulusPoly", name := "<init>", desc := "(LModulusGF;[I)V" } : Jvm.MethodName)) ∈ lw_all := lw_g (lw_at lw_m1 93 rfl) rfl
theorem q98 : (Jvm.Cond.code ({ cls := "ModulusPoly", name := "<init>", desc := "(LModulusGF;[I)V" } : Jvm.MethodName) prog_4_method_1_code (5 : Nat) (Option.none : Option Jvm.ClassFile.FieldType)) ∈ lw_all := lw_g (lw_at lw_m1 94 rfl) rfl
theorem q99 : (Jvm.Cond.methodLink "ModulusPoly" (1 : Nat) ({ cls := "java/lang/Object", name := "<init>", desc := "()V" } : Jvm.MethodName)) ∈ lw_all := lw_g (lw_at lw_m1 95 rfl) rfl
theorem q100 : (Jvm.Cond.classLink "ModulusPoly" (7 : Nat) "java/lang/IllegalArgumentException") ∈ lw_all := lw_g (lw_at lw_m1 96 rfl) rfl
theorem q141 : (Jvm.Cond.methodLink "ModulusPoly" (9 : Nat) ({ cls := "java/lang/IllegalArgumentException", name := "<init>", desc := "()V" } : Jvm.MethodName)) ∈ lw_all := lw_g (lw_at lw_m1 137 rfl) rfl
theorem q164 : (Jvm.Cond.methodLink "ModulusPoly" (20 : Nat) ({ cls := "java/lang/System", name := "arraycopy", desc := "(Ljava/lang/Object;ILjava/lang/Object;II)V" } : Jvm.MethodName)) ∈ lw_all := lw_g (lw_at lw_m1 160 rfl) rfl
theorem q167 : (Jvm.Cond.fieldLink "ModulusPoly" (10 : Nat) "ModulusPoly" "field" "LModulusGF;") ∈ lw_all := lw_g (lw_at lw_m1 163 rfl) rfl
theorem q168 : (Jvm.Cond.fieldLink "ModulusPoly" (16 : Nat) "ModulusPoly" "coefficients" "[I") ∈ lw_all := lw_g (lw_at lw_m1 164 rfl) rfl
theorem q169 : (Jvm.Cond.laysFinal "ModulusPoly" "ModulusPoly" "field" "LModulusGF;") ∈ lw_all := lw_g (lw_at lw_m1 165 rfl) rfl
theorem q170 : (Jvm.Cond.soleField "ModulusPoly" "field") ∈ lw_all := lw_g (lw_at lw_m1 166 rfl) rfl
theorem q171 : (Jvm.Cond.laysFinal "ModulusPoly" "ModulusPoly" "coefficients" "[I") ∈ lw_all := lw_g (lw_at lw_m1 167 rfl) rfl
theorem q172 : (Jvm.Cond.soleField "ModulusPoly" "coefficients") ∈ lw_all := lw_g (lw_at lw_m1 168 rfl) rfl
theorem q173 : (Jvm.Cond.superclass "ModulusPoly" "java/lang/Object") ∈ lw_all := lw_g (lw_at lw_m1 169 rfl) rfl
theorem q179 : (Jvm.Cond.instanceMethod ({ cls := "ModulusPoly", name := "evaluateAt", desc := "(I)I" } : Jvm.MethodName)) ∈ lw_all := lw_g (lw_at lw_m1 175 rfl) rfl
theorem q180 : (Jvm.Cond.selects "ModulusPoly" ({ cls := "ModulusPoly", name := "evaluateAt", desc := "(I)I" } : Jvm.MethodName) ({ cls := "ModulusPoly", name := "evaluateAt", desc := "(I)I" } : Jvm.MethodName)) ∈ lw_all := lw_g (lw_at lw_m1 176 rfl) rfl
theorem q181 : (Jvm.Cond.code ({ cls := "ModulusPoly", name := "evaluateAt", desc := "(I)I" } : Jvm.MethodName) prog_4_method_5_code (7 : Nat) (Option.some Jvm.ClassFile.FieldType.int)) ∈ lw_all := lw_g (lw_at lw_m1 177 rfl) rfl
theorem q182 : (Jvm.Cond.methodLink "ModulusPoly" (26 : Nat) ({ cls := "ModulusPoly", name := "getCoefficient", desc := "(I)I" } : Jvm.MethodName)) ∈ lw_all := lw_g (lw_at lw_m1 178 rfl) rfl
theorem q183 : (Jvm.Cond.instanceMethod ({ cls := "ModulusPoly", name := "getCoefficient", desc := "(I)I" } : Jvm.MethodName)) ∈ lw_all := lw_g (lw_at lw_m1 179 rfl) rfl
theorem q184 : (Jvm.Cond.selects "ModulusPoly" ({ cls := "ModulusPoly", name := "getCoefficient", desc := "(I)I" } : Jvm.MethodName) ({ cls := "ModulusPoly", name := "getCoefficient", desc := "(I)I" } : Jvm.MethodName)) ∈ lw_all := lw_g (lw_at lw_m1 180 rfl) rfl
theorem q185 : (Jvm.Cond.code ({ cls := "ModulusPoly", name := "getCoefficient", desc := "(I)I" } : Jvm.MethodName) prog_4_method_4_code (2 : Nat) (Option.some Jvm.ClassFile.FieldType.int)) ∈ lw_all := lw_g (lw_at lw_m1 181 rfl) rfl
theorem q186 : (Jvm.Cond.methodLink "ModulusPoly" (30 : Nat) ({ cls := "ModulusGF", name := "add", desc := "(II)I" } : Jvm.MethodName)) ∈ lw_all := lw_g (lw_at lw_m1 182 rfl) rfl
theorem q190 : (Jvm.Cond.methodLink "ModulusPoly" (36 : Nat) ({ cls := "ModulusGF", name := "multiply", desc := "(II)I" } : Jvm.MethodName)) ∈ lw_all := lw_g (lw_at lw_m1 186 rfl) rfl
theorem q203 : (Jvm.Cond.instanceMethod ({ cls := "ModulusPoly", name := "multiply", desc := "(LModulusPoly;)LModulusPoly;" } : Jvm.MethodName)) ∈ lw_all := lw_g (lw_at lw_m1 199 rfl) rfl
theorem q204 : (Jvm.Cond.selects "ModulusPoly" ({ cls := "ModulusPoly", name := "multiply", desc := "(LModulusPoly;)LModulusPoly;" } : Jvm.MethodName) ({ cls := "ModulusPoly", name := "multiply", desc := "(LModulusPoly;)LModulusPoly;" } : Jvm.MethodName)) ∈ lw_all := lw_g (lw_at lw_m1 200 rfl) rfl
theorem q205 : (Jvm.Cond.code ({ cls := "ModulusPoly", name := "multiply", desc := "(LModulusPoly;)LModulusPoly;" } : Jvm.MethodName) prog_4_method_8_code (10 : Nat) (Option.some (Jvm.ClassFile.FieldType.object "ModulusPoly"))) ∈ lw_all := lw_g (lw_at lw_m1 201 rfl) rfl
theorem q206 : (Jvm.Cond.stringRef "ModulusPoly" (39 : Nat) "ModulusPolys do not have same ModulusGF field") ∈ lw_tbl := lw_at lw_m1 202 rfl
theorem q207 : (Jvm.Cond.methodLink "ModulusPoly" (41 : Nat) ({ cls := "java/lang/IllegalArgumentException", name := "<init>", desc := "(Ljava/lang/String;)V" } : Jvm.MethodName)) ∈ lw_all := lw_g (lw_at lw_m1 203 rfl) rfl
theorem q219 : (Jvm.Cond.methodLink "ModulusPoly" (44 : Nat) ({ cls := "ModulusPoly", name := "isZero", desc := "()Z" } : Jvm.MethodName)) ∈ lw_all := lw_g (lw_at lw_m1 215 rfl) rfl
theorem q220 : (Jvm.Cond.instanceMethod ({ cls := "ModulusPoly", name := "isZero", desc := "()Z" } : Jvm.MethodName)) ∈ lw_all := lw_g (lw_at lw_m1 216 rfl) rfl
theorem q221 : (Jvm.Cond.selects "ModulusPoly" ({ cls := "ModulusPoly", name := "isZero", desc := "()Z" } : Jvm.MethodName) ({ cls := "ModulusPoly", name := "isZero", desc := "()Z" } : Jvm.MethodName)) ∈ lw_all := lw_g (lw_at lw_m1 217 rfl) rfl
theorem q222 : (Jvm.Cond.code ({ cls := "ModulusPoly", name := "isZero", desc := "()Z" } : Jvm.MethodName) prog_4_method_3_code (1 : Nat) (Option.some Jvm.ClassFile.FieldType.boolean)) ∈ lw_all := lw_g (lw_at lw_m1 218 rfl) rfl
theorem q223 : (Jvm.Cond.methodLink "ModulusPoly" (58 : Nat) ({ cls := "ModulusGF", name := "getZero", desc := "()LModulusPoly;" } : Jvm.MethodName)) ∈ lw_all := lw_g (lw_at lw_m1 219 rfl) rfl
theorem q227 : (Jvm.Cond.classLink "ModulusPoly" (11 : Nat) "ModulusPoly") ∈ lw_all := lw_g (lw_at lw_m1 223 rfl) rfl
theorem q228 : (Jvm.Cond.methodLink "ModulusPoly" (48 : Nat) ({ cls := "ModulusPoly", name := "<init>", desc := "(LModulusGF;[I)V" } : Jvm.MethodName)) ∈ lw_all := lw_g (lw_at lw_m1 224 rfl) rfl
theorem q242 : (Jvm.Cond.instanceMethod ({ cls := "ModulusPoly", name := "getDegree", desc := "()I" } : Jvm.MethodName)) ∈ lw_all := lw_g (lw_at lw_m1 238 rfl) rfl
theorem q243 : (Jvm.Cond.selects "ModulusPoly" ({ cls := "ModulusPoly", name := "getDegree", desc := "()I" } : Jvm.MethodName) ({ cls := "ModulusPoly", name := "getDegree", desc := "()I" } : Jvm.MethodName)) ∈ lw_all := lw_g (lw_at lw_m1 239 rfl) rfl
theorem q244 : (Jvm.Cond.code ({ cls := "ModulusPoly", name := "getDegree", desc := "()I" } : Jvm.MethodName) prog_4_method_2_code (1 : Nat) (Option.some Jvm.ClassFile.FieldType.int)) ∈ lw_all := lw_g (lw_at lw_m2 0 rfl) rfl
theorem q275 : (Jvm.Cond.instanceMethod ({ cls := "ModulusPoly", name := "add", desc := "(LModulusPoly;)LModulusPoly;" } : Jvm.MethodName)) ∈ lw_all := lw_g (lw_at lw_m2 31 rfl) rfl
theorem q276 : (Jvm.Cond.selects "ModulusPoly" ({ cls := "ModulusPoly", name := "add", desc := "(LModulusPoly;)LModulusPoly;" } : Jvm.MethodName) ({ cls := "ModulusPoly", name := "add", desc := "(LModulusPoly;)LModulusPoly;" } : Jvm.MethodName)) ∈ lw_all := lw_g (lw_at lw_m2 32 rfl) rfl
theorem q277 : (Jvm.Cond.code ({ cls := "ModulusPoly", name := "add", desc := "(LModulusPoly;)LModulusPoly;" } : Jvm.MethodName) prog_4_method_6_code (7 : Nat) (Option.some (Jvm.ClassFile.FieldType.object "ModulusPoly"))) ∈ lw_all := lw_g (lw_at lw_m2 33 rfl) rfl
theorem q279 : (Jvm.Cond.instanceMethod ({ cls := "ModulusPoly", name := "multiplyByMonomial", desc := "(II)LModulusPoly;" } : Jvm.MethodName)) ∈ lw_all := lw_g (lw_at lw_m2 35 rfl) rfl
theorem q280 : (Jvm.Cond.selects "ModulusPoly" ({ cls := "ModulusPoly", name := "multiplyByMonomial", desc := "(II)LModulusPoly;" } : Jvm.MethodName) ({ cls := "ModulusPoly", name := "multiplyByMonomial", desc := "(II)LModulusPoly;" } : Jvm.MethodName)) ∈ lw_all := lw_g (lw_at lw_m2 36 rfl) rfl
theorem q281 : (Jvm.Cond.code ({ cls := "ModulusPoly", name := "multiplyByMonomial", desc := "(II)LModulusPoly;" } : Jvm.MethodName) prog_4_method_11_code (6 : Nat) (Option.some (Jvm.ClassFile.FieldType.object "ModulusPoly"))) ∈ lw_all := lw_g (lw_at lw_m2 37 rfl) rfl
theorem q283 : (Jvm.Cond.instanceMethod ({ cls := "ModulusPoly", name := "subtract", desc := "(LModulusPoly;)LModulusPoly;" } : Jvm.MethodName)) ∈ lw_all := lw_g (lw_at lw_m2 39 rfl) rfl
theorem q284 : (Jvm.Cond.selects "ModulusPoly" ({ cls := "ModulusPoly", name := "subtract", desc := "(LModulusPoly;)LModulusPoly;" } : Jvm.MethodName) ({ cls := "ModulusPoly", name := "subtract", desc := "(LModulusPoly;)LModulusPoly;" } : Jvm.MethodName)) ∈ lw_all := lw_g (lw_at lw_m2 40 rfl) rfl
theorem q285 : (Jvm.Cond.code ({ cls := "ModulusPoly", name := "subtract", desc := "(LModulusPoly;)LModulusPoly;" } : Jvm.MethodName) prog_4_method_7_code (2 : Nat) (Option.some (Jvm.ClassFile.FieldType.object "ModulusPoly"))) ∈ lw_all := lw_g (lw_at lw_m2 41 rfl) rfl
theorem q286 : (Jvm.Cond.methodLink "ModulusPoly" (51 : Nat) ({ cls := "ModulusPoly", name := "negative", desc := "()LModulusPoly;" } : Jvm.MethodName)) ∈ lw_all := lw_g (lw_at lw_m2 42 rfl) rfl
theorem q287 : (Jvm.Cond.instanceMethod ({ cls := "ModulusPoly", name := "negative", desc := "()LModulusPoly;" } : Jvm.MethodName)) ∈ lw_all := lw_g (lw_at lw_m2 43 rfl) rfl
theorem q288 : (Jvm.Cond.selects "ModulusPoly" ({ cls := "ModulusPoly", name := "negative", desc := "()LModulusPoly;" } : Jvm.MethodName) ({ cls := "ModulusPoly", name := "negative", desc := "()LModulusPoly;" } : Jvm.MethodName)) ∈ lw_all := lw_g (lw_at lw_m2 44 rfl) rfl
theorem q289 : (Jvm.Cond.code ({ cls := "ModulusPoly", name := "negative", desc := "()LModulusPoly;" } : Jvm.MethodName) prog_4_method_9_code (4 : Nat) (Option.some (Jvm.ClassFile.FieldType.object "ModulusPoly"))) ∈ lw_all := lw_g (lw_at lw_m2 45 rfl) rfl
theorem q290 : (Jvm.Cond.methodLink "ModulusPoly" (61 : Nat) ({ cls := "ModulusGF", name := "subtract", desc := "(II)I" } : Jvm.MethodName)) ∈ lw_all := lw_g (lw_at lw_m2 46 rfl) rfl
theorem q291 : (Jvm.Cond.methodLink "ModulusPoly" (55 : Nat) ({ cls := "ModulusPoly", name := "add", desc := "(LModulusPoly;)LModulusPoly;" } : Jvm.MethodName)) ∈ lw_all := lw_g (lw_at lw_m2 47 rfl) rfl
theorem q294 : (Jvm.Cond.instanceMethod ({ cls := "ModulusPoly", name := "multiply", desc := "(I)LModulusPoly;" } : Jvm.MethodName)) ∈ lw_all := lw_g (lw_at lw_m2 50 rfl) rfl
theorem q295 : (Jvm.Cond.selects "ModulusPoly" ({ cls := "ModulusPoly", name := "multiply", desc := "(I)LModulusPoly;" } : Jvm.MethodName) ({ cls := "ModulusPoly", name := "multiply", desc := "(I)LModulusPoly;" } : Jvm.MethodName)) ∈ lw_all := lw_g (lw_at lw_m2 51 rfl) rfl
theorem q296 : (Jvm.Cond.code ({ cls := "ModulusPoly", name := "multiply", desc := "(I)LModulusPoly;" } : Jvm.MethodName) prog_4_method_10_code (5 : Nat) (Option.some (Jvm.ClassFile.FieldType.object "ModulusPoly"))) ∈ lw_all := lw_g (lw_at lw_m2 52 rfl) rfl
theorem in_X4 : ∀ w ∈ wsX40, w ∈ lw_all := lw_in wsX40 [169, 171] (by decide +kernel) (by decide +kernel)

/-! the law's own entry -/
set_option maxRecDepth 100000
abbrev cL_law : ByteArray := code
def dkwL_law_11 : List UInt8 := [159, 0, 5, 3, 172, 132, 7, 1, 167, 255, 229, 4, 172]
abbrev dktL_law_11 : List UInt8 := dkwL_law_11 ++ []
def dkwL_law_10 : List UInt8 := [3, 172, 3, 54, 7, 21, 7, 25, 4, 190, 162, 0, 25, 43, 21, 7, 182, 0, 32, 25, 4, 21, 7, 46]
abbrev dktL_law_10 : List UInt8 := dkwL_law_10 ++ dktL_law_11
def dkwL_law_9 : List UInt8 := [132, 6, 1, 167, 255, 228, 43, 182, 0, 40, 54, 6, 21, 6, 155, 0, 10, 21, 6, 21, 5, 164, 0, 5]
abbrev dktL_law_9 : List UInt8 := dkwL_law_9 ++ dktL_law_10
def dkwL_law_8 : List UInt8 := [25, 4, 190, 162, 0, 26, 43, 21, 6, 182, 0, 32, 25, 4, 21, 6, 46, 159, 0, 6, 132, 5, 1]
abbrev dktL_law_8 : List UInt8 := dkwL_law_8 ++ dktL_law_9
def dkwL_law_7 : List UInt8 := [21, 5, 104, 96, 46, 182, 0, 36, 87, 132, 5, 1, 167, 255, 210, 3, 54, 5, 3, 54, 6, 21, 6]
abbrev dktL_law_7 : List UInt8 := dkwL_law_7 ++ dktL_law_8
def dkwL_law_6 : List UInt8 := [21, 5, 104, 96, 42, 190, 162, 0, 32, 43, 42, 16, 17, 5, 21, 5, 104, 96, 46, 42, 16, 18, 5]
abbrev dktL_law_6 : List UInt8 := dkwL_law_6 ++ dktL_law_7
def dkwL_law_5 : List UInt8 := [182, 0, 32, 79, 132, 5, 1, 167, 255, 234, 3, 54, 5, 21, 5, 29, 5, 108, 162, 0, 44, 16, 18, 5]
abbrev dktL_law_5 : List UInt8 := dkwL_law_5 ++ dktL_law_6
def dkwL_law_4 : List UInt8 := [96, 188, 10, 58, 4, 3, 54, 5, 21, 5, 25, 4, 190, 162, 0, 20, 25, 4, 21, 5, 43, 21, 5]
abbrev dktL_law_4 : List UInt8 := dkwL_law_4 ++ dktL_law_5
def dkwL_law_3 : List UInt8 := [167, 255, 230, 43, 182, 0, 24, 153, 0, 13, 43, 182, 0, 28, 28, 29, 96, 159, 0, 5, 3, 172, 28, 29]
abbrev dktL_law_3 : List UInt8 := dkwL_law_3 ++ dktL_law_4
def dkwL_law_2 : List UInt8 := [28, 162, 0, 26, 43, 42, 4, 21, 4, 96, 184, 0, 10, 182, 0, 20, 154, 0, 5, 3, 172, 132, 4, 1]
abbrev dktL_law_2 : List UInt8 := dkwL_law_2 ++ dktL_law_3
def dkwL_law_1 : List UInt8 := [122, 16, 15, 126, 96, 61, 5, 5, 42, 3, 184, 0, 10, 16, 7, 126, 104, 96, 62, 3, 54, 4, 21, 4]
abbrev dktL_law_1 : List UInt8 := dkwL_law_1 ++ dktL_law_2
def dkwL_law_0 : List UInt8 := [187, 0, 7, 89, 183, 0, 9, 76, 43, 42, 3, 184, 0, 10, 182, 0, 16, 4, 42, 3, 184, 0, 10, 6]
abbrev dktL_law_0 : List UInt8 := dkwL_law_0 ++ dktL_law_1
theorem dksL_law_0 : cL_law.data.toList.drop 0 = dktL_law_0 := by decide +kernel
theorem dksL_law_1 : cL_law.data.toList.drop 24 = dktL_law_1 := dk_seg dksL_law_0 24 rfl rfl
theorem dksL_law_2 : cL_law.data.toList.drop 48 = dktL_law_2 := dk_seg dksL_law_1 24 rfl rfl
theorem dksL_law_3 : cL_law.data.toList.drop 72 = dktL_law_3 := dk_seg dksL_law_2 24 rfl rfl
theorem dksL_law_4 : cL_law.data.toList.drop 96 = dktL_law_4 := dk_seg dksL_law_3 24 rfl rfl
theorem dksL_law_5 : cL_law.data.toList.drop 119 = dktL_law_5 := dk_seg dksL_law_4 23 rfl rfl
theorem dksL_law_6 : cL_law.data.toList.drop 143 = dktL_law_6 := dk_seg dksL_law_5 24 rfl rfl
theorem dksL_law_7 : cL_law.data.toList.drop 166 = dktL_law_7 := dk_seg dksL_law_6 23 rfl rfl
theorem dksL_law_8 : cL_law.data.toList.drop 189 = dktL_law_8 := dk_seg dksL_law_7 23 rfl rfl
theorem dksL_law_9 : cL_law.data.toList.drop 212 = dktL_law_9 := dk_seg dksL_law_8 23 rfl rfl
theorem dksL_law_10 : cL_law.data.toList.drop 236 = dktL_law_10 := dk_seg dksL_law_9 24 rfl rfl
theorem dksL_law_11 : cL_law.data.toList.drop 260 = dktL_law_11 := dk_seg dksL_law_10 24 rfl rfl
theorem dL_law_0 : decode cL_law 0 = .ok (.new 7, 3) := dk_187 0 7 (dk_at dksL_law_0 0 rfl rfl)
theorem dL_law_3 : decode cL_law 3 = .ok (.dup, 1) := dk_89 (dk_at dksL_law_0 3 rfl rfl)
theorem dL_law_4 : decode cL_law 4 = .ok (.invokespecial 9, 3) := dk_183 0 9 (dk_at dksL_law_0 4 rfl rfl)
theorem dL_law_7 : decode cL_law 7 = .ok (.astore_n 1, 1) := dk_76 (dk_at dksL_law_0 7 rfl rfl)
theorem dL_law_8 : decode cL_law 8 = .ok (.aload_n 1, 1) := dk_43 (dk_at dksL_law_0 8 rfl rfl)
theorem dL_law_9 : decode cL_law 9 = .ok (.aload_n 0, 1) := dk_42 (dk_at dksL_law_0 9 rfl rfl)
theorem dL_law_10 : decode cL_law 10 = .ok (.iconst 0, 1) := dk_3 (dk_at dksL_law_0 10 rfl rfl)
theorem dL_law_11 : decode cL_law 11 = .ok (.invokestatic 10, 3) := dk_184 0 10 (dk_at dksL_law_0 11 rfl rfl)
theorem dL_law_14 : decode cL_law 14 = .ok (.invokevirtual 16, 3) := dk_182 0 16 (dk_at dksL_law_0 14 rfl rfl)
theorem dL_law_17 : decode cL_law 17 = .ok (.iconst 1, 1) := dk_4 (dk_at dksL_law_0 17 rfl rfl)
theorem dL_law_18 : decode cL_law 18 = .ok (.aload_n 0, 1) := dk_42 (dk_at dksL_law_0 18 rfl rfl)
theorem dL_law_19 : decode cL_law 19 = .ok (.iconst 0, 1) := dk_3 (dk_at dksL_law_0 19 rfl rfl)
theorem dL_law_20 : decode cL_law 20 = .ok (.invokestatic 10, 3) := dk_184 0 10 (dk_at dksL_law_0 20 rfl rfl)
theorem dL_law_23 : decode cL_law 23 = .ok (.iconst 3, 1) := dk_6 (dk_at dksL_law_0 23 rfl rfl)
theorem dL_law_24 : decode cL_law 24 = .ok (.ishr, 1) := dk_122 (dk_at dksL_law_1 0 rfl rfl)
theorem dL_law_25 : decode cL_law 25 = .ok (.bipush 15, 2) := dk_16 15 (dk_at dksL_law_1 1 rfl rfl)
theorem dL_law_27 : decode cL_law 27 = .ok (.iand, 1) := dk_126 (dk_at dksL_law_1 3 rfl rfl)
theorem dL_law_28 : decode cL_law 28 = .ok (.iadd, 1) := dk_96 (dk_at dksL_law_1 4 rfl rfl)
theorem dL_law_29 : decode cL_law 29 = .ok (.istore_n 2, 1) := dk_61 (dk_at dksL_law_1 5 rfl rfl)
theorem dL_law_30 : decode cL_law 30 = .ok (.iconst 2, 1) := dk_5 (dk_at dksL_law_1 6 rfl rfl)
theorem dL_law_31 : decode cL_law 31 = .ok (.iconst 2, 1) := dk_5 (dk_at dksL_law_1 7 rfl rfl)
theorem dL_law_32 : decode cL_law 32 = .ok (.aload_n 0, 1) := dk_42 (dk_at dksL_law_1 8 rfl rfl)
theorem dL_law_33 : decode cL_law 33 = .ok (.iconst 0, 1) := dk_3 (dk_at dksL_law_1 9 rfl rfl)
theorem dL_law_34 : decode cL_law 34 = .ok (.invokestatic 10, 3) := dk_184 0 10 (dk_at dksL_law_1 10 rfl rfl)
theorem dL_law_37 : decode cL_law 37 = .ok (.bipush 7, 2) := dk_16 7 (dk_at dksL_law_1 13 rfl rfl)
theorem dL_law_39 : decode cL_law 39 = .ok (.iand, 1) := dk_126 (dk_at dksL_law_1 15 rfl rfl)
theorem dL_law_40 : decode cL_law 40 = .ok (.imul, 1) := dk_104 (dk_at dksL_law_1 16 rfl rfl)
theorem dL_law_41 : decode cL_law 41 = .ok (.iadd, 1) := dk_96 (dk_at dksL_law_1 17 rfl rfl)
theorem dL_law_42 : decode cL_law 42 = .ok (.istore_n 3, 1) := dk_62 (dk_at dksL_law_1 18 rfl rfl)
theorem dL_law_43 : decode cL_law 43 = .ok (.iconst 0, 1) := dk_3 (dk_at dksL_law_1 19 rfl rfl)
theorem dL_law_44 : decode cL_law 44 = .ok (.istore 4, 2) := dk_54 4 (dk_at dksL_law_1 20 rfl rfl)
theorem dL_law_46 : decode cL_law 46 = .ok (.iload 4, 2) := dk_21 4 (dk_at dksL_law_1 22 rfl rfl)
theorem dL_law_48 : decode cL_law 48 = .ok (.iload_n 2, 1) := dk_28 (dk_at dksL_law_2 0 rfl rfl)
theorem dL_law_49 : decode cL_law 49 = .ok (.if_icmp .ge 26, 3) := dk_162 0 26 (dk_at dksL_law_2 1 rfl rfl)
theorem dL_law_52 : decode cL_law 52 = .ok (.aload_n 1, 1) := dk_43 (dk_at dksL_law_2 4 rfl rfl)
theorem dL_law_53 : decode cL_law 53 = .ok (.aload_n 0, 1) := dk_42 (dk_at dksL_law_2 5 rfl rfl)
theorem dL_law_54 : decode cL_law 54 = .ok (.iconst 1, 1) := dk_4 (dk_at dksL_law_2 6 rfl rfl)
theorem dL_law_55 : decode cL_law 55 = .ok (.iload 4, 2) := dk_21 4 (dk_at dksL_law_2 7 rfl rfl)
theorem dL_law_57 : decode cL_law 57 = .ok (.iadd, 1) := dk_96 (dk_at dksL_law_2 9 rfl rfl)
theorem dL_law_58 : decode cL_law 58 = .ok (.invokestatic 10, 3) := dk_184 0 10 (dk_at dksL_law_2 10 rfl rfl)
theorem dL_law_61 : decode cL_law 61 = .ok (.invokevirtual 20, 3) := dk_182 0 20 (dk_at dksL_law_2 13 rfl rfl)
theorem dL_law_64 : decode cL_law 64 = .ok (.ifCond .ne 5, 3) := dk_154 0 5 (dk_at dksL_law_2 16 rfl rfl)
theorem dL_law_67 : decode cL_law 67 = .ok (.iconst 0, 1) := dk_3 (dk_at dksL_law_2 19 rfl rfl)
theorem dL_law_68 : decode cL_law 68 = .ok (.ireturn, 1) := dk_172 (dk_at dksL_law_2 20 rfl rfl)
theorem dL_law_69 : decode cL_law 69 = .ok (.iinc 4 1, 3) := dk_132 4 1 (dk_at dksL_law_2 21 rfl rfl)
theorem dL_law_72 : decode cL_law 72 = .ok (.goto (-26), 3) := dk_167 255 230 (dk_at dksL_law_3 0 rfl rfl)
theorem dL_law_75 : decode cL_law 75 = .ok (.aload_n 1, 1) := dk_43 (dk_at dksL_law_3 3 rfl rfl)
theorem dL_law_76 : decode cL_law 76 = .ok (.invokevirtual 24, 3) := dk_182 0 24 (dk_at dksL_law_3 4 rfl rfl)
theorem dL_law_79 : decode cL_law 79 = .ok (.ifCond .eq 13, 3) := dk_153 0 13 (dk_at dksL_law_3 7 rfl rfl)
theorem dL_law_82 : decode cL_law 82 = .ok (.aload_n 1, 1) := dk_43 (dk_at dksL_law_3 10 rfl rfl)
theorem dL_law_83 : decode cL_law 83 = .ok (.invokevirtual 28, 3) := dk_182 0 28 (dk_at dksL_law_3 11 rfl rfl)
theorem dL_law_86 : decode cL_law 86 = .ok (.iload_n 2, 1) := dk_28 (dk_at dksL_law_3 14 rfl rfl)
theorem dL_law_87 : decode cL_law 87 = .ok (.iload_n 3, 1) := dk_29 (dk_at dksL_law_3 15 rfl rfl)
theorem dL_law_88 : decode cL_law 88 = .ok (.iadd, 1) := dk_96 (dk_at dksL_law_3 16 rfl rfl)
theorem dL_law_89 : decode cL_law 89 = .ok (.if_icmp .eq 5, 3) := dk_159 0 5 (dk_at dksL_law_3 17 rfl rfl)
theorem dL_law_92 : decode cL_law 92 = .ok (.iconst 0, 1) := dk_3 (dk_at dksL_law_3 20 rfl rfl)
theorem dL_law_93 : decode cL_law 93 = .ok (.ireturn, 1) := dk_172 (dk_at dksL_law_3 21 rfl rfl)
theorem dL_law_94 : decode cL_law 94 = .ok (.iload_n 2, 1) := dk_28 (dk_at dksL_law_3 22 rfl rfl)
theorem dL_law_95 : decode cL_law 95 = .ok (.iload_n 3, 1) := dk_29 (dk_at dksL_law_3 23 rfl rfl)
theorem dL_law_96 : decode cL_law 96 = .ok (.iadd, 1) := dk_96 (dk_at dksL_law_4 0 rfl rfl)
theorem dL_law_97 : decode cL_law 97 = .ok (.newarray .int, 2) := dk_188_10 (dk_at dksL_law_4 1 rfl rfl)
theorem dL_law_99 : decode cL_law 99 = .ok (.astore 4, 2) := dk_58 4 (dk_at dksL_law_4 3 rfl rfl)
theorem dL_law_101 : decode cL_law 101 = .ok (.iconst 0, 1) := dk_3 (dk_at dksL_law_4 5 rfl rfl)
theorem dL_law_102 : decode cL_law 102 = .ok (.istore 5, 2) := dk_54 5 (dk_at dksL_law_4 6 rfl rfl)
theorem dL_law_104 : decode cL_law 104 = .ok (.iload 5, 2) := dk_21 5 (dk_at dksL_law_4 8 rfl rfl)
theorem dL_law_106 : decode cL_law 106 = .ok (.aload 4, 2) := dk_25 4 (dk_at dksL_law_4 10 rfl rfl)
theorem dL_law_108 : decode cL_law 108 = .ok (.arraylength, 1) := dk_190 (dk_at dksL_law_4 12 rfl rfl)
theorem dL_law_109 : decode cL_law 109 = .ok (.if_icmp .ge 20, 3) := dk_162 0 20 (dk_at dksL_law_4 13 rfl rfl)
theorem dL_law_112 : decode cL_law 112 = .ok (.aload 4, 2) := dk_25 4 (dk_at dksL_law_4 16 rfl rfl)
theorem dL_law_114 : decode cL_law 114 = .ok (.iload 5, 2) := dk_21 5 (dk_at dksL_law_4 18 rfl rfl)
theorem dL_law_116 : decode cL_law 116 = .ok (.aload_n 1, 1) := dk_43 (dk_at dksL_law_4 20 rfl rfl)
theorem dL_law_117 : decode cL_law 117 = .ok (.iload 5, 2) := dk_21 5 (dk_at dksL_law_4 21 rfl rfl)
theorem dL_law_119 : decode cL_law 119 = .ok (.invokevirtual 32, 3) := dk_182 0 32 (dk_at dksL_law_5 0 rfl rfl)
theorem dL_law_122 : decode cL_law 122 = .ok (.iastore, 1) := dk_79 (dk_at dksL_law_5 3 rfl rfl)
theorem dL_law_123 : decode cL_law 123 = .ok (.iinc 5 1, 3) := dk_132 5 1 (dk_at dksL_law_5 4 rfl rfl)
theorem dL_law_126 : decode cL_law 126 = .ok (.goto (-22), 3) := dk_167 255 234 (dk_at dksL_law_5 7 rfl rfl)
theorem dL_law_129 : decode cL_law 129 = .ok (.iconst 0, 1) := dk_3 (dk_at dksL_law_5 10 rfl rfl)
theorem dL_law_130 : decode cL_law 130 = .ok (.istore 5, 2) := dk_54 5 (dk_at dksL_law_5 11 rfl rfl)
theorem dL_law_132 : decode cL_law 132 = .ok (.iload 5, 2) := dk_21 5 (dk_at dksL_law_5 13 rfl rfl)
theorem dL_law_134 : decode cL_law 134 = .ok (.iload_n 3, 1) := dk_29 (dk_at dksL_law_5 15 rfl rfl)
theorem dL_law_135 : decode cL_law 135 = .ok (.iconst 2, 1) := dk_5 (dk_at dksL_law_5 16 rfl rfl)
theorem dL_law_136 : decode cL_law 136 = .ok (.idiv, 1) := dk_108 (dk_at dksL_law_5 17 rfl rfl)
theorem dL_law_137 : decode cL_law 137 = .ok (.if_icmp .ge 44, 3) := dk_162 0 44 (dk_at dksL_law_5 18 rfl rfl)
theorem dL_law_140 : decode cL_law 140 = .ok (.bipush 18, 2) := dk_16 18 (dk_at dksL_law_5 21 rfl rfl)
theorem dL_law_142 : decode cL_law 142 = .ok (.iconst 2, 1) := dk_5 (dk_at dksL_law_5 23 rfl rfl)
theorem dL_law_143 : decode cL_law 143 = .ok (.iload 5, 2) := dk_21 5 (dk_at dksL_law_6 0 rfl rfl)
theorem dL_law_145 : decode cL_law 145 = .ok (.imul, 1) := dk_104 (dk_at dksL_law_6 2 rfl rfl)
theorem dL_law_146 : decode cL_law 146 = .ok (.iadd, 1) := dk_96 (dk_at dksL_law_6 3 rfl rfl)
theorem dL_law_147 : decode cL_law 147 = .ok (.aload_n 0, 1) := dk_42 (dk_at dksL_law_6 4 rfl rfl)
theorem dL_law_148 : decode cL_law 148 = .ok (.arraylength, 1) := dk_190 (dk_at dksL_law_6 5 rfl rfl)
theorem dL_law_149 : decode cL_law 149 = .ok (.if_icmp .ge 32, 3) := dk_162 0 32 (dk_at dksL_law_6 6 rfl rfl)
theorem dL_law_152 : decode cL_law 152 = .ok (.aload_n 1, 1) := dk_43 (dk_at dksL_law_6 9 rfl rfl)
theorem dL_law_153 : decode cL_law 153 = .ok (.aload_n 0, 1) := dk_42 (dk_at dksL_law_6 10 rfl rfl)
theorem dL_law_154 : decode cL_law 154 = .ok (.bipush 17, 2) := dk_16 17 (dk_at dksL_law_6 11 rfl rfl)
theorem dL_law_156 : decode cL_law 156 = .ok (.iconst 2, 1) := dk_5 (dk_at dksL_law_6 13 rfl rfl)
theorem dL_law_157 : decode cL_law 157 = .ok (.iload 5, 2) := dk_21 5 (dk_at dksL_law_6 14 rfl rfl)
theorem dL_law_159 : decode cL_law 159 = .ok (.imul, 1) := dk_104 (dk_at dksL_law_6 16 rfl rfl)
theorem dL_law_160 : decode cL_law 160 = .ok (.iadd, 1) := dk_96 (dk_at dksL_law_6 17 rfl rfl)
theorem dL_law_161 : decode cL_law 161 = .ok (.iaload, 1) := dk_46 (dk_at dksL_law_6 18 rfl rfl)
theorem dL_law_162 : decode cL_law 162 = .ok (.aload_n 0, 1) := dk_42 (dk_at dksL_law_6 19 rfl rfl)
theorem dL_law_163 : decode cL_law 163 = .ok (.bipush 18, 2) := dk_16 18 (dk_at dksL_law_6 20 rfl rfl)
theorem dL_law_165 : decode cL_law 165 = .ok (.iconst 2, 1) := dk_5 (dk_at dksL_law_6 22 rfl rfl)
theorem dL_law_166 : decode cL_law 166 = .ok (.iload 5, 2) := dk_21 5 (dk_at dksL_law_7 0 rfl rfl)
theorem dL_law_168 : decode cL_law 168 = .ok (.imul, 1) := dk_104 (dk_at dksL_law_7 2 rfl rfl)
theorem dL_law_169 : decode cL_law 169 = .ok (.iadd, 1) := dk_96 (dk_at dksL_law_7 3 rfl rfl)
theorem dL_law_170 : decode cL_law 170 = .ok (.iaload, 1) := dk_46 (dk_at dksL_law_7 4 rfl rfl)
theorem dL_law_171 : decode cL_law 171 = .ok (.invokevirtual 36, 3) := dk_182 0 36 (dk_at dksL_law_7 5 rfl rfl)
theorem dL_law_174 : decode cL_law 174 = .ok (.pop, 1) := dk_87 (dk_at dksL_law_7 8 rfl rfl)
theorem dL_law_175 : decode cL_law 175 = .ok (.iinc 5 1, 3) := dk_132 5 1 (dk_at dksL_law_7 9 rfl rfl)
theorem dL_law_178 : decode cL_law 178 = .ok (.goto (-46), 3) := dk_167 255 210 (dk_at dksL_law_7 12 rfl rfl)
theorem dL_law_181 : decode cL_law 181 = .ok (.iconst 0, 1) := dk_3 (dk_at dksL_law_7 15 rfl rfl)
theorem dL_law_182 : decode cL_law 182 = .ok (.istore 5, 2) := dk_54 5 (dk_at dksL_law_7 16 rfl rfl)
theorem dL_law_184 : decode cL_law 184 = .ok (.iconst 0, 1) := dk_3 (dk_at dksL_law_7 18 rfl rfl)
theorem dL_law_185 : decode cL_law 185 = .ok (.istore 6, 2) := dk_54 6 (dk_at dksL_law_7 19 rfl rfl)
theorem dL_law_187 : decode cL_law 187 = .ok (.iload 6, 2) := dk_21 6 (dk_at dksL_law_7 21 rfl rfl)
theorem dL_law_189 : decode cL_law 189 = .ok (.aload 4, 2) := dk_25 4 (dk_at dksL_law_8 0 rfl rfl)
theorem dL_law_191 : decode cL_law 191 = .ok (.arraylength, 1) := dk_190 (dk_at dksL_law_8 2 rfl rfl)
theorem dL_law_192 : decode cL_law 192 = .ok (.if_icmp .ge 26, 3) := dk_162 0 26 (dk_at dksL_law_8 3 rfl rfl)
theorem dL_law_195 : decode cL_law 195 = .ok (.aload_n 1, 1) := dk_43 (dk_at dksL_law_8 6 rfl rfl)
theorem dL_law_196 : decode cL_law 196 = .ok (.iload 6, 2) := dk_21 6 (dk_at dksL_law_8 7 rfl rfl)
theorem dL_law_198 : decode cL_law 198 = .ok (.invokevirtual 32, 3) := dk_182 0 32 (dk_at dksL_law_8 9 rfl rfl)
theorem dL_law_201 : decode cL_law 201 = .ok (.aload 4, 2) := dk_25 4 (dk_at dksL_law_8 12 rfl rfl)
theorem dL_law_203 : decode cL_law 203 = .ok (.iload 6, 2) := dk_21 6 (dk_at dksL_law_8 14 rfl rfl)
theorem dL_law_205 : decode cL_law 205 = .ok (.iaload, 1) := dk_46 (dk_at dksL_law_8 16 rfl rfl)
theorem dL_law_206 : decode cL_law 206 = .ok (.if_icmp .eq 6, 3) := dk_159 0 6 (dk_at dksL_law_8 17 rfl rfl)
theorem dL_law_209 : decode cL_law 209 = .ok (.iinc 5 1, 3) := dk_132 5 1 (dk_at dksL_law_8 20 rfl rfl)
theorem dL_law_212 : decode cL_law 212 = .ok (.iinc 6 1, 3) := dk_132 6 1 (dk_at dksL_law_9 0 rfl rfl)
theorem dL_law_215 : decode cL_law 215 = .ok (.goto (-28), 3) := dk_167 255 228 (dk_at dksL_law_9 3 rfl rfl)
theorem dL_law_218 : decode cL_law 218 = .ok (.aload_n 1, 1) := dk_43 (dk_at dksL_law_9 6 rfl rfl)
theorem dL_law_219 : decode cL_law 219 = .ok (.invokevirtual 40, 3) := dk_182 0 40 (dk_at dksL_law_9 7 rfl rfl)
theorem dL_law_222 : decode cL_law 222 = .ok (.istore 6, 2) := dk_54 6 (dk_at dksL_law_9 10 rfl rfl)
theorem dL_law_224 : decode cL_law 224 = .ok (.iload 6, 2) := dk_21 6 (dk_at dksL_law_9 12 rfl rfl)
theorem dL_law_226 : decode cL_law 226 = .ok (.ifCond .lt 10, 3) := dk_155 0 10 (dk_at dksL_law_9 14 rfl rfl)
theorem dL_law_229 : decode cL_law 229 = .ok (.iload 6, 2) := dk_21 6 (dk_at dksL_law_9 17 rfl rfl)
theorem dL_law_231 : decode cL_law 231 = .ok (.iload 5, 2) := dk_21 5 (dk_at dksL_law_9 19 rfl rfl)
theorem dL_law_233 : decode cL_law 233 = .ok (.if_icmp .le 5, 3) := dk_164 0 5 (dk_at dksL_law_9 21 rfl rfl)
theorem dL_law_236 : decode cL_law 236 = .ok (.iconst 0, 1) := dk_3 (dk_at dksL_law_10 0 rfl rfl)
theorem dL_law_237 : decode cL_law 237 = .ok (.ireturn, 1) := dk_172 (dk_at dksL_law_10 1 rfl rfl)
theorem dL_law_238 : decode cL_law 238 = .ok (.iconst 0, 1) := dk_3 (dk_at dksL_law_10 2 rfl rfl)
theorem dL_law_239 : decode cL_law 239 = .ok (.istore 7, 2) := dk_54 7 (dk_at dksL_law_10 3 rfl rfl)
theorem dL_law_241 : decode cL_law 241 = .ok (.iload 7, 2) := dk_21 7 (dk_at dksL_law_10 5 rfl rfl)
theorem dL_law_243 : decode cL_law 243 = .ok (.aload 4, 2) := dk_25 4 (dk_at dksL_law_10 7 rfl rfl)
theorem dL_law_245 : decode cL_law 245 = .ok (.arraylength, 1) := dk_190 (dk_at dksL_law_10 9 rfl rfl)
theorem dL_law_246 : decode cL_law 246 = .ok (.if_icmp .ge 25, 3) := dk_162 0 25 (dk_at dksL_law_10 10 rfl rfl)
theorem dL_law_249 : decode cL_law 249 = .ok (.aload_n 1, 1) := dk_43 (dk_at dksL_law_10 13 rfl rfl)
theorem dL_law_250 : decode cL_law 250 = .ok (.iload 7, 2) := dk_21 7 (dk_at dksL_law_10 14 rfl rfl)
theorem dL_law_252 : decode cL_law 252 = .ok (.invokevirtual 32, 3) := dk_182 0 32 (dk_at dksL_law_10 16 rfl rfl)
theorem dL_law_255 : decode cL_law 255 = .ok (.aload 4, 2) := dk_25 4 (dk_at dksL_law_10 19 rfl rfl)
theorem dL_law_257 : decode cL_law 257 = .ok (.iload 7, 2) := dk_21 7 (dk_at dksL_law_10 21 rfl rfl)
theorem dL_law_259 : decode cL_law 259 = .ok (.iaload, 1) := dk_46 (dk_at dksL_law_10 23 rfl rfl)
theorem dL_law_260 : decode cL_law 260 = .ok (.if_icmp .eq 5, 3) := dk_159 0 5 (dk_at dksL_law_11 0 rfl rfl)
theorem dL_law_263 : decode cL_law 263 = .ok (.iconst 0, 1) := dk_3 (dk_at dksL_law_11 3 rfl rfl)
theorem dL_law_264 : decode cL_law 264 = .ok (.ireturn, 1) := dk_172 (dk_at dksL_law_11 4 rfl rfl)
theorem dL_law_265 : decode cL_law 265 = .ok (.iinc 7 1, 3) := dk_132 7 1 (dk_at dksL_law_11 5 rfl rfl)
theorem dL_law_268 : decode cL_law 268 = .ok (.goto (-27), 3) := dk_167 255 229 (dk_at dksL_law_11 8 rfl rfl)
theorem dL_law_271 : decode cL_law 271 = .ok (.iconst 1, 1) := dk_4 (dk_at dksL_law_11 11 rfl rfl)
theorem dL_law_272 : decode cL_law 272 = .ok (.ireturn, 1) := dk_172 (dk_at dksL_law_11 12 rfl rfl)

/-! java/lang/Object -/
set_option maxRecDepth 100000
def RJ5 : String := "java/lang/Object"
abbrev cJ5_init : ByteArray := object_method_1_code
def yJ5_init : MethodName := ⟨RJ5, "<init>", "()V"⟩
theorem dJ5_init_0 : decode cJ5_init 0 = .ok (.return_, 1) := by decide +kernel
theorem q23 : (Jvm.Cond.instanceMethod ({ cls := "java/lang/Object", name := "<init>", desc := "()V" } : Jvm.MethodName)) ∈ lw_all := lw_g (lw_at lw_m1 19 rfl) rfl
theorem q24 : (Jvm.Cond.code ({ cls := "java/lang/Object", name := "<init>", desc := "()V" } : Jvm.MethodName) object_method_1_code (1 : Nat) (Option.none : Option Jvm.ClassFile.FieldType)) ∈ lw_all := lw_g (lw_at lw_m1 20 rfl) rfl
end
section
/-! PURE LAW 1: the field of 929 numbers, polynomials by their values -/
abbrev rsK : Type := Fin 929
def rs_ev (c : Nat → rsK) : Nat → rsK → rsK
  | 0, _ => 0
  | n + 1, x => rs_ev c n x * x + c n
def rs_pw (x : rsK) : Nat → rsK
  | 0 => 1
  | n + 1 => rs_pw x n * x
theorem rs_ev_0 (c : Nat → rsK) (x : rsK) : rs_ev c 0 x = 0 := rfl
theorem rs_ev_s (c : Nat → rsK) (n : Nat) (x : rsK) : rs_ev c (n + 1) x = rs_ev c n x * x + c n := rfl
theorem rs_pw_0 (x : rsK) : rs_pw x 0 = 1 := rfl
theorem rs_pw_s (x : rsK) (n : Nat) : rs_pw x (n + 1) = rs_pw x n * x := rfl
-- powers of 3
def rs_x (i : Nat) : rsK := Fin.ofNat 929 (3 ^ i)
theorem rs_x_val (i : Nat) : (rs_x i).val = 3 ^ i % 929 := rfl
theorem rs_x_add (i j : Nat) : rs_x (i + j) = rs_x i * rs_x j := by
  apply Fin.ext
  show 3 ^ (i + j) % 929 = ((3 ^ i % 929) * (3 ^ j % 929)) % 929
  rw [Nat.pow_add, Nat.mul_mod]
theorem rs_x_0 : rs_x 0 = 1 := by decide +kernel
theorem rs_x_928 : rs_x 928 = 1 := by decide +kernel
theorem rs_x_pw (i n : Nat) : rs_pw (rs_x i) n = rs_x (i * n) := by
  induction n with
  | zero => rw [rs_pw_0, Nat.mul_zero, rs_x_0]
  | succ n ih => rw [rs_pw_s, ih, ← rs_x_add, Nat.mul_succ]
theorem rs_x_pw2 (i n : Nat) : rs_pw (rs_x i) n = rs_pw (rs_x n) i := by
  rw [rs_x_pw, rs_x_pw, Nat.mul_comm]
-- the logarithms
def rs_L : List Nat := [0, 0, 810, 1, 692, 876, 811, 505, 574, 2, 758, 142, 693, 857, 387, 877, 456, 721, 812, 728, 640, 506, 24, 872, 575, 824, 739, 3, 269, 126, 759, 169, 338, 143, 603, 453, 694, 332, 610, 858, 522, 443, 388, 697, 834, 878, 754, 430, 457, 82, 706, 722, 621, 12, 813, 90, 151, 729, 8, 421, 641, 902, 51, 507, 220, 805, 25, 543, 485, 873, 335, 418, 576, 711, 214, 825, 492, 647, 740, 35, 404, 4, 325, 778, 270, 669, 579, 127, 716, 564, 760, 434, 636, 170, 312, 676, 339, 613, 892, 144, 588, 174, 604, 344, 503, 454, 822, 601, 695, 619, 900, 333, 33, 714, 611, 820, 818, 859, 303, 298, 523, 284, 784, 444, 861, 772, 389, 481, 102, 698, 687, 652, 835, 305, 425, 879, 367, 254, 755, 329, 217, 431, 300, 71, 458, 74, 593, 83, 96, 106, 707, 525, 374, 723, 529, 117, 622, 46, 845, 13, 286, 449, 814, 199, 207, 91, 660, 828, 152, 786, 551, 730, 461, 736, 9, 401, 598, 422, 446, 191, 642, 163, 316, 903, 518, 280, 52, 863, 194, 508, 558, 791, 221, 746, 495, 806, 774, 203, 26, 77, 470, 544, 56, 631, 486, 391, 226, 874, 385, 870, 336, 441, 704, 419, 483, 645, 577, 674, 501, 712, 782, 650, 215, 104, 843, 826, 596, 278, 493, 629, 702, 648, 700, 237, 741, 378, 185, 36, 180, 239, 405, 689, 166, 5, 666, 30, 326, 657, 743, 779, 654, 133, 271, 86, 363, 670, 912, 380, 580, 837, 569, 128, 534, 680, 717, 888, 187, 565, 307, 319, 761, 353, 249, 435, 136, 38, 637, 427, 211, 171, 99, 114, 313, 867, 182, 677, 881, 20, 340, 514, 884, 614, 475, 241, 893, 369, 906, 145, 916, 801, 589, 274, 407, 175, 256, 850, 605, 109, 411, 345, 927, 691, 504, 757, 856, 455, 727, 23, 823, 268, 168, 602, 331, 521, 696, 753, 81, 620, 89, 7, 901, 219, 542, 334, 710, 491, 34, 324, 668, 715, 433, 311, 612, 587, 343, 821, 618, 32, 819, 302, 283, 860, 480, 686, 304, 366, 328, 299, 73, 95, 524, 528, 45, 285, 198, 659, 785, 460, 400, 445, 162, 517, 862, 557, 745, 773, 76, 55, 390, 384, 440, 482, 673, 781, 103, 595, 628, 699, 377, 179, 688, 665, 656, 653, 85, 911, 836, 533, 887, 306, 352, 135, 426, 98, 866, 880, 513, 474, 368, 915, 273, 255, 108, 926, 756, 726, 267, 330, 752, 88, 218, 709, 323, 432, 586, 617, 301, 479, 365, 72, 527, 197, 459, 161, 556, 75, 383, 672, 594, 376, 664, 84, 532, 351, 97, 512, 914, 107, 725, 751, 708, 585, 478, 526, 160, 382, 375, 531, 511, 724, 584, 159, 530, 583, 582, 118, 119, 66, 623, 120, 260, 47, 67, 839, 846, 624, 62, 14, 121, 244, 287, 261, 571, 450, 48, 561, 815, 68, 548, 200, 840, 130, 208, 847, 539, 92, 625, 923, 661, 63, 536, 829, 15, 765, 153, 122, 896, 787, 245, 682, 552, 288, 794, 731, 262, 292, 462, 572, 719, 737, 451, 832, 10, 49, 416, 402, 562, 890, 599, 816, 770, 423, 69, 372, 447, 549, 189, 192, 201, 224, 643, 841, 235, 164, 131, 567, 317, 209, 18, 904, 848, 854, 519, 540, 309, 281, 93, 398, 53, 626, 909, 864, 924, 321, 195, 662, 749, 509, 64, 60, 559, 537, 763, 792, 830, 768, 222, 16, 396, 747, 766, 355, 496, 154, 357, 807, 123, 148, 775, 897, 251, 204, 788, 498, 27, 246, 798, 78, 683, 437, 471, 553, 156, 545, 289, 232, 57, 795, 138, 632, 732, 359, 487, 263, 919, 392, 293, 40, 227, 463, 809, 875, 573, 141, 386, 720, 639, 871, 738, 125, 337, 452, 609, 442, 833, 429, 705, 11, 150, 420, 50, 804, 484, 417, 213, 646, 403, 777, 578, 563, 635, 675, 891, 173, 502, 600, 899, 713, 817, 297, 783, 771, 101, 651, 424, 253, 216, 70, 592, 105, 373, 116, 844, 448, 206, 827, 550, 735, 597, 190, 315, 279, 193, 790, 494, 202, 469, 630, 225, 869, 703, 644, 500, 649, 842, 277, 701, 236, 184, 238, 165, 29, 742, 132, 362, 379, 568, 679, 186, 318, 248, 37, 210, 113, 181, 19, 883, 240, 905, 800, 406, 849, 410, 690, 855, 22, 167, 520, 80, 6, 541, 490, 667, 310, 342, 31, 282, 685, 327, 94, 44, 658, 399, 516, 744, 54, 439, 780, 627, 178, 655, 910, 886, 134, 865, 473, 272, 925, 266, 87, 322, 616, 364, 196, 555, 671, 663, 350, 913, 750, 477, 381, 510, 158, 581, 65, 259, 838, 61, 243, 570, 560, 547, 129, 538, 922, 535, 764, 895, 681, 793, 291, 718, 831, 415, 889, 769, 371, 188, 223, 234, 566, 17, 853, 308, 397, 908, 320, 748, 59, 762, 767, 395, 354, 356, 147, 250, 497, 797, 436, 155, 231, 137, 358, 918, 39, 808, 140, 638, 124, 608, 428, 149, 803, 212, 776, 634, 172, 898, 296, 100, 252, 591, 115, 205, 734, 314, 789, 468, 868, 499, 276, 183, 28, 361, 678, 247, 112, 882, 799, 409, 21, 79, 489, 341, 684, 43, 515, 438, 177, 885, 472, 265, 615, 554, 349, 476, 157, 258, 242, 546, 921, 894, 290, 414, 370, 233, 852, 907, 58, 394, 146, 796, 230, 917, 139, 607, 802, 633, 295, 590, 733, 467, 275, 360, 111, 408, 488, 42, 176, 264, 348, 257, 920, 413, 851, 393, 229, 606, 294, 466, 110, 41, 347, 412, 228, 465, 346, 464]
def rs_chk : List Nat → Nat → Bool
  | [], _ => true
  | k :: l, a => (Nat.beq a 0 || (Nat.blt k 928 && Nat.beq (3 ^ k % 929) a)) && rs_chk l (a + 1)
theorem rs_chk_at : ∀ (l : List Nat) (a i : Nat), rs_chk l a = true → i < l.length → a + i ≠ 0 → l.getD i 0 < 928 ∧ 3 ^ l.getD i 0 % 929 = a + i
  | [], _, _, _, h, _ => absurd h (Nat.not_lt_zero _)
  | k :: l, a, 0, h, _, h0 => by
    simp only [rs_chk, Bool.and_eq_true, Bool.or_eq_true, Nat.blt_eq] at h
    rcases h.1 with h1 | h1
    · exact absurd (Nat.eq_of_beq_eq_true h1) h0
    · exact ⟨h1.1, Nat.eq_of_beq_eq_true h1.2⟩
  | k :: l, a, i + 1, h, hi, h0 => by
    simp only [rs_chk, Bool.and_eq_true] at h
    have h2 := rs_chk_at l (a + 1) i h.2 (by simpa using hi) (by omega)
    rw [List.getD_cons_succ]
    exact ⟨h2.1, by rw [h2.2]; omega⟩
theorem rs_L_len : rs_L.length = 929 := by decide +kernel
theorem rs_L_ok : rs_chk rs_L 0 = true := by decide +kernel
def rs_lg (a : rsK) : Nat := rs_L.getD a.val 0
theorem rs_lg_lt {a : rsK} (h : a ≠ 0) : rs_lg a < 928 := by
  have h0 : a.val ≠ 0 := fun e => h (Fin.ext e)
  exact (rs_chk_at rs_L 0 a.val rs_L_ok (by rw [rs_L_len]; exact a.isLt) (by omega)).1
theorem rs_x_lg {a : rsK} (h : a ≠ 0) : rs_x (rs_lg a) = a := by
  have h0 : a.val ≠ 0 := fun e => h (Fin.ext e)
  apply Fin.ext
  have h1 := (rs_chk_at rs_L 0 a.val rs_L_ok (by rw [rs_L_len]; exact a.isLt) (by omega)).2
  rw [rs_x_val]
  show 3 ^ rs_L.getD a.val 0 % 929 = a.val
  omega
def rs_iv (a : rsK) : rsK := rs_x (928 - rs_lg a)
theorem rs_mul_iv {a : rsK} (h : a ≠ 0) : a * rs_iv a = 1 := by
  have h1 := rs_lg_lt h
  have h2 : rs_x (rs_lg a) * rs_x (928 - rs_lg a) = 1 := by
    rw [← rs_x_add, show rs_lg a + (928 - rs_lg a) = 928 by omega, rs_x_928]
  rw [rs_x_lg h] at h2
  exact h2
theorem rs_ne10 : (1 : rsK) ≠ 0 := by decide
theorem rs_dom {a b : rsK} (h : a * b = 0) (ha : a ≠ 0) : b = 0 := by
  have h1 := rs_mul_iv ha
  have h2 : b = (a * rs_iv a) * b := by rw [h1]; grind
  have h3 : (a * rs_iv a) * b = rs_iv a * (a * b) := by grind
  rw [h2, h3, h]
  grind
theorem rs_mul_ne {a b : rsK} (ha : a ≠ 0) (hb : b ≠ 0) : a * b ≠ 0 := fun h => hb (rs_dom h ha)
theorem rs_x_ne (i : Nat) : rs_x i ≠ 0 := by
  intro h
  have h1 : rs_x (i + 927 * i) = rs_x i * rs_x (927 * i) := rs_x_add _ _
  rw [h] at h1
  have h2 : rs_x (928 * i) = 1 := by
    rw [← rs_x_pw, rs_x_928]
    have h3 : ∀ n, rs_pw 1 n = 1 := by
      intro n
      induction n with
      | zero => rfl
      | succ n ih => rw [rs_pw_s, ih]; decide
    exact h3 i
  rw [show i + 927 * i = 928 * i by omega, h2] at h1
  have h4 : (0 : rsK) * rs_x (927 * i) = 0 := by grind
  rw [h4] at h1
  exact rs_ne10 h1
theorem rs_iv_ne (a : rsK) : rs_iv a ≠ 0 := rs_x_ne _
theorem rs_iv_uniq {a b : rsK} (h : a * b = 1) : b = rs_iv a := by
  have ha : a ≠ 0 := by
    intro e
    rw [e] at h
    have h4 : (0 : rsK) * b = 0 := by grind
    rw [h4] at h
    exact rs_ne10 h.symm
  have h1 := rs_mul_iv ha
  have h2 : a * (b - rs_iv a) = 0 := by
    have h3 : a * (b - rs_iv a) = a * b - a * rs_iv a := by grind
    rw [h3, h, h1]; decide
  have h3 := rs_dom h2 ha
  have h4 : b = (b - rs_iv a) + rs_iv a := by grind
  rw [h4, h3]; grind
theorem rs_iv_iv {a : rsK} (h : a ≠ 0) : rs_iv (rs_iv a) = a := by
  have h1 := rs_mul_iv h
  have h2 : rs_iv a * a = 1 := by rw [← h1]; grind
  exact (rs_iv_uniq h2).symm
theorem rs_x_one : (List.range 927).all (fun k => !Nat.beq (3 ^ (k + 1) % 929) 1) = true := by decide +kernel
theorem rs_x_inj {i j : Nat} (hi : i < 928) (hj : j < 928) (h : rs_x i = rs_x j) : i = j := by
  have key : ∀ a b : Nat, a < b → b < 928 → rs_x a ≠ rs_x b := by
    intro a b hab hb e
    have e1 : rs_x b = rs_x a * rs_x (b - a) := by rw [← rs_x_add]; congr 1; omega
    have e2 : rs_x a * (rs_x (b - a) - 1) = 0 := by
      have e3 : rs_x a * (rs_x (b - a) - 1) = rs_x a * rs_x (b - a) - rs_x a := by grind
      rw [e3, ← e1, e]; grind
    have e4 := rs_dom e2 (rs_x_ne a)
    have e5 : rs_x (b - a) = 1 := by
      have e6 : rs_x (b - a) = (rs_x (b - a) - 1) + 1 := by grind
      rw [e6, e4]; decide
    have e7 := List.all_eq_true.mp rs_x_one (b - a - 1) (List.mem_range.mpr (by omega))
    have e8 : 3 ^ (b - a - 1 + 1) % 929 = 1 := by
      rw [show b - a - 1 + 1 = b - a by omega, ← rs_x_val, e5]; rfl
    rw [e8] at e7
    exact absurd e7 (by decide)
  rcases Nat.lt_trichotomy i j with q | q | q
  · exact absurd h (key i j q hj)
  · exact q
  · exact absurd h.symm (key j i q hi)
theorem rs_lg_x {i : Nat} (hi : i < 928) : rs_lg (rs_x i) = i :=
  rs_x_inj (rs_lg_lt (rs_x_ne i)) hi (rs_x_lg (rs_x_ne i))
-- power rows
theorem rs_pw_add (x : rsK) (m n : Nat) : rs_pw x (m + n) = rs_pw x m * rs_pw x n := by
  induction n with
  | zero => rw [Nat.add_zero, rs_pw_0]; grind
  | succ n ih => rw [← Nat.add_assoc, rs_pw_s, rs_pw_s, ih]; grind
theorem rs_pw_mul (x y : rsK) (n : Nat) : rs_pw (x * y) n = rs_pw x n * rs_pw y n := by
  induction n with
  | zero => rw [rs_pw_0, rs_pw_0, rs_pw_0]; decide
  | succ n ih => rw [rs_pw_s, rs_pw_s, rs_pw_s, ih]; grind
theorem rs_pw_ne {x : rsK} (h : x ≠ 0) (n : Nat) : rs_pw x n ≠ 0 := by
  induction n with
  | zero => exact rs_ne10
  | succ n ih => rw [rs_pw_s]; exact rs_mul_ne ih h
theorem rs_pw_z {n : Nat} (h : 0 < n) : rs_pw 0 n = 0 := by
  cases n with
  | zero => omega
  | succ n => rw [rs_pw_s]; grind
-- polynomial rows
theorem rs_ev_cg {c d : Nat → rsK} : ∀ (n : Nat), (∀ j, j < n → c j = d j) → ∀ x, rs_ev c n x = rs_ev d n x
  | 0, _, _ => rfl
  | n + 1, h, x => by rw [rs_ev_s, rs_ev_s, rs_ev_cg n (fun j hj => h j (by omega)) x, h n (by omega)]
theorem rs_ev_z {c : Nat → rsK} : ∀ (n : Nat), (∀ j, j < n → c j = 0) → ∀ x, rs_ev c n x = 0
  | 0, _, _ => rfl
  | n + 1, h, x => by rw [rs_ev_s, rs_ev_z n (fun j hj => h j (by omega)) x, h n (by omega)]; grind
theorem rs_ev_ad (c d : Nat → rsK) : ∀ (n : Nat) (x : rsK), rs_ev (fun j => c j + d j) n x = rs_ev c n x + rs_ev d n x
  | 0, _ => by rw [rs_ev_0, rs_ev_0, rs_ev_0]; decide
  | n + 1, x => by rw [rs_ev_s, rs_ev_s, rs_ev_s, rs_ev_ad c d n x]; grind
theorem rs_ev_sm (a : rsK) (c : Nat → rsK) : ∀ (n : Nat) (x : rsK), rs_ev (fun j => a * c j) n x = a * rs_ev c n x
  | 0, _ => by rw [rs_ev_0, rs_ev_0]; grind
  | n + 1, x => by rw [rs_ev_s, rs_ev_s, rs_ev_sm a c n x]; grind
theorem rs_ev_ap (c : Nat → rsK) (n : Nat) : ∀ (m : Nat) (x : rsK), rs_ev c (n + m) x = rs_ev c n x * rs_pw x m + rs_ev (fun j => c (n + j)) m x
  | 0, x => by rw [Nat.add_zero, rs_pw_0, rs_ev_0]; grind
  | m + 1, x => by rw [← Nat.add_assoc, rs_ev_s, rs_ev_s, rs_pw_s, rs_ev_ap c n m x]; grind
theorem rs_ev_pad (c : Nat → rsK) (m n : Nat) (x : rsK) : rs_ev (fun j => if j < m then 0 else c (j - m)) (m + n) x = rs_ev c n x := by
  rw [rs_ev_ap, rs_ev_z m (fun j hj => by rw [if_pos hj]) x, rs_ev_cg n (d := c) (fun j hj => by rw [if_neg (by omega)]; congr 1; omega) x]
  grind
theorem rs_ev_sh (c : Nat → rsK) (n m : Nat) (x : rsK) : rs_ev (fun j => if j < n then c j else 0) (n + m) x = rs_ev c n x * rs_pw x m := by
  rw [rs_ev_ap, rs_ev_z (c := fun j => (fun j => if j < n then c j else 0) (n + j)) m (fun j hj => by show (if n + j < n then c (n + j) else 0) = 0; rw [if_neg (by omega)]) x, rs_ev_cg n (d := c) (fun j hj => by rw [if_pos hj]) x]
  grind
theorem rs_ev_front (c : Nat → rsK) (n : Nat) (x : rsK) : rs_ev c (n + 1) x = c 0 * rs_pw x n + rs_ev (fun j => c (j + 1)) n x := by
  have h := rs_ev_ap c 1 n x
  rw [Nat.add_comm 1 n] at h
  rw [h, rs_ev_s, rs_ev_0, rs_ev_cg n (d := fun j => c (j + 1)) (fun j _ => by rw [Nat.add_comm]) x]
  grind
theorem rs_ev_up (c : Nat → rsK) (k : Nat) (v : rsK) : ∀ (n : Nat), k < n → ∀ x, rs_ev (fun j => if j = k then c k + v else c j) n x = rs_ev c n x + v * rs_pw x (n - 1 - k)
  | 0, h, _ => absurd h (Nat.not_lt_zero _)
  | n + 1, h, x => by
    rw [rs_ev_s, rs_ev_s]
    by_cases hk : k = n
    · subst hk
      rw [if_pos rfl, rs_ev_cg k (d := c) (fun j hj => by rw [if_neg (by omega)]) x, show k + 1 - 1 - k = 0 by omega, rs_pw_0]
      grind
    · rw [if_neg (fun e => hk e.symm), rs_ev_up c k v n (by omega) x, show n + 1 - 1 - k = (n - 1 - k) + 1 by omega, rs_pw_s]
      grind
-- division by a line; roots
def rs_q (c : Nat → rsK) (r : rsK) : Nat → rsK := fun j => rs_ev c (j + 1) r
theorem rs_syd (c : Nat → rsK) (r : rsK) : ∀ (n : Nat) (x : rsK), rs_ev c (n + 1) x = (x - r) * rs_ev (rs_q c r) n x + rs_ev c (n + 1) r
  | 0, x => by rw [rs_ev_s, rs_ev_s, rs_ev_0, rs_ev_0, rs_ev_0]; grind
  | n + 1, x => by
    rw [rs_ev_s c (n + 1) x, rs_syd c r n x, rs_ev_s (rs_q c r) n x, rs_ev_s c (n + 1) r, show rs_q c r n = rs_ev c (n + 1) r from rfl]
    grind
theorem rs_sub_ne {a b : rsK} (h : a ≠ b) : a - b ≠ 0 := by
  intro e
  have h1 : a = (a - b) + b := by grind
  rw [e] at h1
  apply h
  rw [h1]; grind
theorem rs_sub_eq {a b : rsK} (h : a - b = 0) : a = b := by
  have h1 : a = (a - b) + b := by grind
  rw [h1, h]; grind
theorem rs_roots : ∀ (n : Nat) (c : Nat → rsK) (l : List rsK), l.Nodup → n ≤ l.length → (∀ x ∈ l, rs_ev c n x = 0) → ∀ j, j < n → c j = 0
  | 0, _, _, _, _, _, j, hj => absurd hj (Nat.not_lt_zero j)
  | n + 1, c, [], _, hl, _, _, _ => absurd hl (by simp)
  | n + 1, c, r :: l, hd, hl, hz, j, hj => by
    have hr : rs_ev c (n + 1) r = 0 := hz r List.mem_cons_self
    have hd2 := List.nodup_cons.mp hd
    have ih := rs_roots n (rs_q c r) l hd2.2 (by simpa using hl) (fun x hx => by
      have h1 := hz x (List.mem_cons_of_mem _ hx)
      rw [rs_syd c r n x, hr] at h1
      have h2 : (x - r) * rs_ev (rs_q c r) n x = 0 := by
        have h3 : (x - r) * rs_ev (rs_q c r) n x = (x - r) * rs_ev (rs_q c r) n x + 0 := by grind
        rw [h3]; exact h1
      exact rs_dom h2 (rs_sub_ne (fun e => hd2.1 (e ▸ hx))))
    have hall : ∀ k, k ≤ n → rs_ev c (k + 1) r = 0 := by
      intro k hk
      by_cases hkn : k = n
      · rw [hkn]; exact hr
      · exact ih k (by omega)
    have h4 := hall j (by omega)
    rw [rs_ev_s] at h4
    have h5 : rs_ev c j r = 0 := by
      cases j with
      | zero => rfl
      | succ k => exact hall k (by omega)
    rw [h5] at h4
    have h6 : c j = 0 * r + c j := by grind
    rw [h6]; exact h4
def rs_pts : List rsK := List.finRange 929
theorem rs_pts_nd : rs_pts.Nodup := List.nodup_finRange 929
theorem rs_pts_in (x : rsK) : x ∈ rs_pts := List.mem_finRange x
theorem rs_pts_len : rs_pts.length = 929 := List.length_finRange
theorem rs_all {n : Nat} {c : Nat → rsK} (hn : n ≤ 929) (h : ∀ x, rs_ev c n x = 0) : ∀ j, j < n → c j = 0 :=
  rs_roots n c rs_pts rs_pts_nd (by rw [rs_pts_len]; exact hn) (fun x _ => h x)
theorem rs_all1 {n : Nat} {c : Nat → rsK} (r : rsK) (hn : n ≤ 928) (h : ∀ x, x ≠ r → rs_ev c n x = 0) : ∀ j, j < n → c j = 0 := by
  refine rs_roots n c (rs_pts.erase r) (List.Nodup.erase r rs_pts_nd) ?_ (fun x hx => h x ((List.Nodup.mem_erase_iff rs_pts_nd).mp hx).1)
  rw [List.length_erase_of_mem (rs_pts_in r), rs_pts_len]
  exact hn
end
section
/-! PURE LAW 2: bounds of degree, the locator and the evaluator, Euclid's end, Forney's rule -/
def rs_B (n : Nat) (f : rsK → rsK) : Prop := ∃ c : Nat → rsK, ∀ x, f x = rs_ev c n x
def rs_BL (n : Nat) (f : rsK → rsK) (a : rsK) : Prop := ∃ c : Nat → rsK, c 0 = a ∧ ∀ x, f x = rs_ev c n x
theorem rs_B_of (c : Nat → rsK) (n : Nat) : rs_B n (fun x => rs_ev c n x) := ⟨c, fun _ => rfl⟩
theorem rs_B_cg {n : Nat} {f g : rsK → rsK} (h : rs_B n f) (e : ∀ x, g x = f x) : rs_B n g := by
  obtain ⟨c, hc⟩ := h
  exact ⟨c, fun x => by rw [e, hc]⟩
theorem rs_B_mono {n m : Nat} {f : rsK → rsK} (h : rs_B n f) (hm : n ≤ m) : rs_B m f := by
  obtain ⟨c, hc⟩ := h
  obtain ⟨k, rfl⟩ : ∃ k, m = k + n := ⟨m - n, by omega⟩
  exact ⟨_, fun x => by rw [hc, ← rs_ev_pad c k n x]⟩
theorem rs_B_add {n : Nat} {f g : rsK → rsK} (hf : rs_B n f) (hg : rs_B n g) : rs_B n (fun x => f x + g x) := by
  obtain ⟨c, hc⟩ := hf
  obtain ⟨d, hd⟩ := hg
  exact ⟨fun j => c j + d j, fun x => by dsimp only; rw [rs_ev_ad, hc, hd]⟩
theorem rs_B_sm {n : Nat} {f : rsK → rsK} (a : rsK) (hf : rs_B n f) : rs_B n (fun x => a * f x) := by
  obtain ⟨c, hc⟩ := hf
  exact ⟨fun j => a * c j, fun x => by dsimp only; rw [rs_ev_sm, hc]⟩
theorem rs_B_sub {n : Nat} {f g : rsK → rsK} (hf : rs_B n f) (hg : rs_B n g) : rs_B n (fun x => f x - g x) :=
  rs_B_cg (rs_B_add hf (rs_B_sm (-1) hg)) (fun x => by grind)
theorem rs_B_z (n : Nat) : rs_B n (fun _ => 0) := ⟨fun _ => 0, fun x => by rw [rs_ev_z n (fun _ _ => rfl) x]⟩
theorem rs_B_mx {n : Nat} {f : rsK → rsK} (a : rsK) (hf : rs_B n f) : rs_B (n + 1) (fun x => f x * x + a) := by
  obtain ⟨c, hc⟩ := hf
  refine ⟨fun j => if j < n then c j else a, fun x => ?_⟩
  dsimp only
  rw [rs_ev_s, if_neg (by omega), rs_ev_cg n (d := c) (fun j hj => by rw [if_pos hj]) x, hc]
theorem rs_B_c (a : rsK) : rs_B 1 (fun _ => a) := ⟨fun _ => a, fun x => by rw [rs_ev_s, rs_ev_0]; grind⟩
theorem rs_B_lin {n : Nat} {f : rsK → rsK} (a : rsK) (hf : rs_B n f) : rs_B (n + 1) (fun x => (1 - a * x) * f x) :=
  rs_B_cg (rs_B_sub (rs_B_mono hf (Nat.le_succ n)) (rs_B_sm a (rs_B_mx 0 hf))) (fun x => by grind)
theorem rs_B_mul : ∀ (n m : Nat) (f g : rsK → rsK), rs_B (n + 1) f → rs_B (m + 1) g → rs_B (n + m + 1) (fun x => f x * g x)
  | 0, m, f, g, ⟨c, hc⟩, hg => rs_B_mono (rs_B_cg (rs_B_sm (c 0) hg) (fun x => by rw [hc, rs_ev_s, rs_ev_0]; grind)) (by omega)
  | n + 1, m, f, g, ⟨c, hc⟩, hg => by
    have h1 := rs_B_mul n m (fun x => rs_ev c (n + 1) x) g (rs_B_of c (n + 1)) hg
    have h2 := rs_B_add (rs_B_mx 0 h1) (rs_B_mono (rs_B_sm (c (n + 1)) hg) (show m + 1 ≤ n + m + 1 + 1 by omega))
    exact rs_B_mono (rs_B_cg h2 (fun x => by rw [hc, rs_ev_s]; grind)) (by omega)
theorem rs_B_sh {n : Nat} {f : rsK → rsK} (k : Nat) (hf : rs_B n f) : rs_B (n + k) (fun x => rs_pw x k * f x) := by
  obtain ⟨c, hc⟩ := hf
  exact ⟨_, fun x => by dsimp only; rw [rs_ev_sh c n k x, hc]; grind⟩
theorem rs_BL_mono0 {n m : Nat} {f : rsK → rsK} (h : rs_B n f) (hm : n < m) : rs_BL m f 0 := by
  obtain ⟨c, hc⟩ := h
  obtain ⟨k, rfl⟩ : ∃ k, m = k + n := ⟨m - n, by omega⟩
  exact ⟨fun j => if j < k then 0 else c (j - k), by show (if 0 < k then (0 : rsK) else _) = 0; rw [if_pos (by omega)], fun x => by rw [hc, ← rs_ev_pad c k n x]⟩
theorem rs_BL_add {n : Nat} {f g : rsK → rsK} {a b : rsK} (hf : rs_BL n f a) (hg : rs_BL n g b) : rs_BL n (fun x => f x + g x) (a + b) := by
  obtain ⟨c, h1, hc⟩ := hf
  obtain ⟨d, h2, hd⟩ := hg
  exact ⟨fun j => c j + d j, by show c 0 + d 0 = _; rw [h1, h2], fun x => by dsimp only; rw [rs_ev_ad, hc, hd]⟩
theorem rs_BL_cg {n : Nat} {f g : rsK → rsK} {a b : rsK} (h : rs_BL n f a) (e : ∀ x, g x = f x) (hab : a = b) : rs_BL n g b := by
  obtain ⟨c, h1, hc⟩ := h
  exact ⟨c, by rw [h1, hab], fun x => by rw [e, hc]⟩
theorem rs_BL_B {n : Nat} {f : rsK → rsK} {a : rsK} (h : rs_BL n f a) : rs_B n f := by
  obtain ⟨c, -, hc⟩ := h
  exact ⟨c, hc⟩
theorem rs_BL_mx {n : Nat} {f : rsK → rsK} {a : rsK} (b : rsK) (hn : 0 < n) (hf : rs_BL n f a) : rs_BL (n + 1) (fun x => f x * x + b) a := by
  obtain ⟨c, h1, hc⟩ := hf
  refine ⟨fun j => if j < n then c j else b, by show (if 0 < n then c 0 else b) = a; rw [if_pos hn, h1], fun x => ?_⟩
  dsimp only
  rw [rs_ev_s, if_neg (by omega), rs_ev_cg n (d := c) (fun j hj => by rw [if_pos hj]) x, hc]
theorem rs_BL_sm {n : Nat} {f : rsK → rsK} {b : rsK} (a : rsK) (hf : rs_BL n f b) : rs_BL n (fun x => a * f x) (a * b) := by
  obtain ⟨c, h1, hc⟩ := hf
  exact ⟨fun j => a * c j, by show a * c 0 = _; rw [h1], fun x => by dsimp only; rw [rs_ev_sm, hc]⟩
theorem rs_BL_mul : ∀ (n m : Nat) (f g : rsK → rsK) (a b : rsK), rs_BL (n + 1) f a → rs_BL (m + 1) g b → rs_BL (n + m + 1) (fun x => f x * g x) (a * b)
  | 0, m, f, g, a, b, ⟨c, h1, hc⟩, hg => by
    rw [Nat.zero_add]
    exact rs_BL_cg (rs_BL_sm a hg) (fun x => by rw [hc, rs_ev_s, rs_ev_0, h1]; grind) rfl
  | n + 1, m, f, g, a, b, ⟨c, h1, hc⟩, hg => by
    have h2 := rs_BL_mul n m (fun x => rs_ev c (n + 1) x) g a b ⟨c, h1, fun _ => rfl⟩ hg
    have h3 := rs_BL_add (rs_BL_mx 0 (by omega) h2) (rs_BL_mono0 (rs_B_sm (c (n + 1)) (rs_BL_B hg)) (show m + 1 < n + m + 1 + 1 by omega))
    rw [show n + 1 + m + 1 = n + m + 1 + 1 by omega]
    exact rs_BL_cg h3 (fun x => by rw [hc, rs_ev_s]; grind) (by grind)
/-- a bounded function that is zero everywhere has leading number 0 -/
theorem rs_BL_zero {n : Nat} {f : rsK → rsK} {a : rsK} (h : rs_BL n f a) (h0 : 0 < n) (hn : n ≤ 929) (hz : ∀ x, f x = 0) : a = 0 := by
  obtain ⟨c, h1, hc⟩ := h
  rw [← h1]
  exact rs_all hn (fun x => by rw [← hc, hz]) 0 h0
theorem rs_B_all1 {n : Nat} {f : rsK → rsK} (r : rsK) (h : rs_B n f) (hn : n ≤ 928) (hz : ∀ x, x ≠ r → f x = 0) : ∀ x, f x = 0 := by
  obtain ⟨c, hc⟩ := h
  intro x
  rw [hc]
  exact rs_ev_z n (rs_all1 r hn (fun y hy => by rw [← hc, hz y hy])) x
theorem rs_B_list {n : Nat} {f : rsK → rsK} (l : List rsK) (h : rs_B n f) (hd : l.Nodup) (hn : n ≤ l.length) (hz : ∀ x ∈ l, f x = 0) : ∀ x, f x = 0 := by
  obtain ⟨c, hc⟩ := h
  intro x
  rw [hc]
  exact rs_ev_z n (rs_roots n c l hd hn (fun y hy => by rw [← hc, hz y hy])) x
/-- low degree and a multiple of x^R: zero -/
theorem rs_low {R M : Nat} {f h : rsK → rsK} (hf : rs_B R f) (hh : rs_B M h) (hRM : M + R ≤ 929) (e : ∀ x, f x = rs_pw x R * h x) : ∀ x, f x = 0 := by
  obtain ⟨c, hc⟩ := hf
  obtain ⟨d, hd⟩ := hh
  have h0 : ∀ x, rs_ev (fun j => (fun j => if j < M then d j else 0) j + (fun j => if j < M then 0 else (-1) * c (j - M)) j) (M + R) x = 0 := by
    intro x
    rw [rs_ev_ad, rs_ev_sh, rs_ev_pad (fun j => (-1) * c j) M R x, rs_ev_sm, ← hc, ← hd, e x]
    grind
  have h1 := rs_all hRM h0
  intro x
  rw [hc]
  refine rs_ev_z R (fun j hj => ?_) x
  have h2 := h1 (M + j) (by omega)
  simp only [] at h2
  rw [if_neg (by omega), if_neg (by omega), show M + j - M = j by omega] at h2
  have h3 : c j = -(0 + (-1) * c j) := by grind
  rw [h3, h2]; decide
-- ===== locator, evaluator =====
def rs_lam : List (rsK × rsK) → rsK → rsK
  | [], _ => 1
  | q :: t, x => (1 - q.1 * x) * rs_lam t x
def rs_om (w : rsK × rsK → rsK) : List (rsK × rsK) → rsK → rsK
  | [], _ => 0
  | q :: t, x => w q * rs_lam t x + (1 - q.1 * x) * rs_om w t x
def rs_geo (y : rsK) : Nat → rsK
  | 0 => 0
  | n + 1 => rs_geo y n + rs_pw y n
theorem rs_geo_eq (y : rsK) (n : Nat) : (1 - y) * rs_geo y n = 1 - rs_pw y n := by
  induction n with
  | zero => show (1 - y) * 0 = 1 - 1; grind
  | succ n ih => show (1 - y) * (rs_geo y n + rs_pw y n) = 1 - rs_pw y n * y; grind
def rs_sy (R : Nat) : List (rsK × rsK) → rsK → rsK
  | [], _ => 0
  | q :: t, x => q.2 * q.1 * rs_geo (q.1 * x) R + rs_sy R t x
abbrev rs_w1 (q : rsK × rsK) : rsK := q.2 * q.1
abbrev rs_w2 (R : Nat) (q : rsK × rsK) : rsK := q.2 * q.1 * rs_pw q.1 R
theorem rs_key (R : Nat) (x : rsK) : ∀ L : List (rsK × rsK), rs_sy R L x * rs_lam L x = rs_om rs_w1 L x - rs_pw x R * rs_om (rs_w2 R) L x
  | [] => by show (0 : rsK) * 1 = 0 - rs_pw x R * 0; grind
  | q :: t => by
    have ih := rs_key R x t
    have hg := rs_geo_eq (q.1 * x) R
    rw [rs_pw_mul] at hg
    show (q.2 * q.1 * rs_geo (q.1 * x) R + rs_sy R t x) * ((1 - q.1 * x) * rs_lam t x) = (q.2 * q.1 * rs_lam t x + (1 - q.1 * x) * rs_om rs_w1 t x) - rs_pw x R * (q.2 * q.1 * rs_pw q.1 R * rs_lam t x + (1 - q.1 * x) * rs_om (rs_w2 R) t x)
    have e1 : (q.2 * q.1 * rs_geo (q.1 * x) R + rs_sy R t x) * ((1 - q.1 * x) * rs_lam t x) = q.2 * q.1 * rs_lam t x * ((1 - q.1 * x) * rs_geo (q.1 * x) R) + (1 - q.1 * x) * (rs_sy R t x * rs_lam t x) := by grind
    rw [e1, hg, ih]
    grind
theorem rs_lam_B : ∀ L : List (rsK × rsK), rs_B (L.length + 1) (rs_lam L)
  | [] => rs_B_c 1
  | q :: t => rs_B_lin q.1 (rs_lam_B t)
theorem rs_om_B (w : rsK × rsK → rsK) : ∀ L : List (rsK × rsK), rs_B L.length (rs_om w L)
  | [] => rs_B_z 0
  | q :: t => rs_B_add (rs_B_sm (w q) (rs_lam_B t)) (rs_B_lin q.1 (rs_om_B w t))
theorem rs_lam_0 : ∀ L : List (rsK × rsK), rs_lam L 0 = 1
  | [] => rfl
  | q :: t => by
    show (1 - q.1 * 0) * rs_lam t 0 = 1
    rw [rs_lam_0 t]; grind
theorem rs_lam_ap (x : rsK) : ∀ L M : List (rsK × rsK), rs_lam (L ++ M) x = rs_lam L x * rs_lam M x
  | [], M => by show rs_lam M x = 1 * rs_lam M x; grind
  | q :: t, M => by
    show (1 - q.1 * x) * rs_lam (t ++ M) x = (1 - q.1 * x) * rs_lam t x * rs_lam M x
    rw [rs_lam_ap x t M]; grind
theorem rs_om_ap (w : rsK × rsK → rsK) (x : rsK) : ∀ L M : List (rsK × rsK), rs_om w (L ++ M) x = rs_om w L x * rs_lam M x + rs_lam L x * rs_om w M x
  | [], M => by show rs_om w M x = 0 * rs_lam M x + 1 * rs_om w M x; grind
  | q :: t, M => by
    show w q * rs_lam (t ++ M) x + (1 - q.1 * x) * rs_om w (t ++ M) x = (w q * rs_lam t x + (1 - q.1 * x) * rs_om w t x) * rs_lam M x + (1 - q.1 * x) * rs_lam t x * rs_om w M x
    rw [rs_om_ap w x t M, rs_lam_ap]; grind
theorem rs_lam_root {x : rsK} : ∀ {L : List (rsK × rsK)}, rs_lam L x = 0 → ∃ q ∈ L, q.1 * x = 1
  | [], h => absurd h rs_ne10
  | q :: t, h => by
    by_cases h1 : q.1 * x = 1
    · exact ⟨q, List.mem_cons_self, h1⟩
    · have h2 : 1 - q.1 * x ≠ 0 := rs_sub_ne (fun e => h1 e.symm)
      obtain ⟨p, hp, h3⟩ := rs_lam_root (rs_dom h h2)
      exact ⟨p, List.mem_cons_of_mem _ hp, h3⟩
theorem rs_lam_at {x : rsK} : ∀ {L : List (rsK × rsK)} {q : rsK × rsK}, q ∈ L → q.1 * x = 1 → rs_lam L x = 0
  | p :: t, q, hq, h => by
    show (1 - p.1 * x) * rs_lam t x = 0
    rcases List.mem_cons.mp hq with e | e
    · rw [← e, h]; grind
    · rw [rs_lam_at e h]; grind
/-- the errors: different places, no value zero, no place zero -/
def rs_ok (L : List (rsK × rsK)) : Prop := (L.map Prod.fst).Nodup ∧ ∀ q ∈ L, q.1 ≠ 0 ∧ q.2 ≠ 0
theorem rs_split {L : List (rsK × rsK)} (hL : rs_ok L) {q : rsK × rsK} (hq : q ∈ L) {x : rsK} (hx : q.1 * x = 1) : ∃ A B : List (rsK × rsK), L = A ++ q :: B ∧ rs_lam A x ≠ 0 ∧ rs_lam B x ≠ 0 := by
  obtain ⟨A, B, e⟩ := List.append_of_mem hq
  refine ⟨A, B, e, ?_, ?_⟩
  · intro h
    obtain ⟨p, hp, h1⟩ := rs_lam_root h
    have e1 : p.1 = q.1 := by
      have hx0 : x ≠ 0 := by
        intro z
        rw [z] at hx
        have : q.1 * 0 = 0 := by grind
        rw [this] at hx
        exact rs_ne10 hx.symm
      have h2 : x * (p.1 - q.1) = 0 := by
        have : x * (p.1 - q.1) = p.1 * x - q.1 * x := by grind
        rw [this, h1, hx]; decide
      exact rs_sub_eq (rs_dom h2 hx0)
    have hd := hL.1
    rw [e, List.map_append, List.map_cons] at hd
    have hd2 := List.nodup_append.mp hd
    exact hd2.2.2 p.1 (List.mem_map.mpr ⟨p, hp, rfl⟩) q.1 List.mem_cons_self e1
  · intro h
    obtain ⟨p, hp, h1⟩ := rs_lam_root h
    have e1 : p.1 = q.1 := by
      have hx0 : x ≠ 0 := by
        intro z
        rw [z] at hx
        have : q.1 * 0 = 0 := by grind
        rw [this] at hx
        exact rs_ne10 hx.symm
      have h2 : x * (p.1 - q.1) = 0 := by
        have : x * (p.1 - q.1) = p.1 * x - q.1 * x := by grind
        rw [this, h1, hx]; decide
      exact rs_sub_eq (rs_dom h2 hx0)
    have hd := hL.1
    rw [e, List.map_append, List.map_cons] at hd
    have hd2 := (List.nodup_append.mp hd).2.1
    exact (List.nodup_cons.mp hd2).1 (List.mem_map.mpr ⟨p, hp, e1⟩)
theorem rs_om_at {w : rsK × rsK → rsK} {A B : List (rsK × rsK)} {q : rsK × rsK} {x : rsK} (hx : q.1 * x = 1) : rs_om w (A ++ q :: B) x = w q * (rs_lam A x * rs_lam B x) := by
  rw [rs_om_ap]
  show rs_om w A x * ((1 - q.1 * x) * rs_lam B x) + rs_lam A x * (w q * rs_lam B x + (1 - q.1 * x) * rs_om w B x) = _
  rw [hx]; grind
theorem rs_om_ne {L : List (rsK × rsK)} (hL : rs_ok L) {q : rsK × rsK} (hq : q ∈ L) {x : rsK} (hx : q.1 * x = 1) : rs_om rs_w1 L x ≠ 0 := by
  obtain ⟨A, B, e, hA, hB⟩ := rs_split hL hq hx
  rw [e, rs_om_at hx]
  exact rs_mul_ne (rs_mul_ne (hL.2 q hq).2 (hL.2 q hq).1) (rs_mul_ne hA hB)
/-- what vanishes behind the locator vanishes -/
theorem rs_lam_cancel {n : Nat} : ∀ (L : List (rsK × rsK)) (f : rsK → rsK), (∀ q ∈ L, q.1 ≠ 0) → rs_B n f → n + L.length ≤ 928 → (∀ x, rs_lam L x * f x = 0) → ∀ x, f x = 0
  | [], f, _, _, _, h => fun x => by
    have h1 := h x
    have h2 : f x = rs_lam [] x * f x := by show f x = 1 * f x; grind
    rw [h2, h1]
  | q :: t, f, h0, hf, hn, h => by
    have hn2 : n + (t.length + 1) ≤ 928 := hn
    refine rs_lam_cancel t f (fun p hp => h0 p (List.mem_cons_of_mem _ hp)) hf (by omega) ?_
    have hB : rs_B (n + t.length + 1) (fun x => rs_lam t x * f x) := by
      have h1 := rs_B_mul t.length n (rs_lam t) f (rs_lam_B t) (rs_B_mono hf (Nat.le_succ n))
      exact rs_B_mono h1 (by omega)
    refine rs_B_all1 (rs_iv q.1) hB (by omega) (fun x hx => ?_)
    have h1 := h x
    have h2 : (1 - q.1 * x) * (rs_lam t x * f x) = 0 := by
      have : (1 - q.1 * x) * (rs_lam t x * f x) = (1 - q.1 * x) * rs_lam t x * f x := by grind
      rw [this]; exact h1
    refine rs_dom h2 (rs_sub_ne (fun e => hx ?_))
    exact rs_iv_uniq e.symm
/-- the roots as a list -/
def rs_ri (L : List (rsK × rsK)) : List rsK := L.map (fun q => rs_iv q.1)
theorem rs_ri_nd {L : List (rsK × rsK)} (hL : rs_ok L) : (rs_ri L).Nodup := by
  have h1 : (rs_ri L) = (L.map Prod.fst).map rs_iv := by rw [List.map_map]; rfl
  rw [h1]
  have h2 := hL.1
  have h3 : ∀ a ∈ L.map Prod.fst, a ≠ 0 := by
    intro a ha
    obtain ⟨q, hq, e⟩ := List.mem_map.mp ha
    rw [← e]; exact (hL.2 q hq).1
  revert h2 h3
  generalize L.map Prod.fst = M
  intro h2 h3
  induction M with
  | nil => exact List.nodup_nil
  | cons a M ih =>
    have h4 := List.nodup_cons.mp h2
    rw [List.map_cons]
    refine List.nodup_cons.mpr ⟨fun hm => ?_, ih h4.2 (fun b hb => h3 b (List.mem_cons_of_mem _ hb))⟩
    obtain ⟨b, hb, e⟩ := List.mem_map.mp hm
    have h5 : b = a := by
      rw [← rs_iv_iv (h3 b (List.mem_cons_of_mem _ hb)), e, rs_iv_iv (h3 a List.mem_cons_self)]
    exact h4.1 (h5 ▸ hb)
theorem rs_ri_len (L : List (rsK × rsK)) : (rs_ri L).length = L.length := List.length_map ..
theorem rs_ri_ne {L : List (rsK × rsK)} : ∀ x ∈ rs_ri L, x ≠ 0 := by
  intro x hx
  obtain ⟨q, -, e⟩ := List.mem_map.mp hx
  rw [← e]; exact rs_iv_ne _
theorem rs_lam_ri {L : List (rsK × rsK)} (hL : rs_ok L) {x : rsK} : rs_lam L x = 0 ↔ x ∈ rs_ri L := by
  constructor
  · intro h
    obtain ⟨q, hq, h1⟩ := rs_lam_root h
    exact List.mem_map.mpr ⟨q, hq, (rs_iv_uniq h1).symm⟩
  · intro h
    obtain ⟨q, hq, e⟩ := List.mem_map.mp h
    exact rs_lam_at hq (by rw [← e]; exact rs_mul_iv (hL.2 q hq).1)
end
section
/-! PURE LAW 3: Euclid's state and its end, Forney's rule, the list of errors of a word -/
def rs_I (R : Nat) (S : rsK → rsK) (nl : Nat) (rl r tl t : rsK → rsK) : Prop :=
  ∃ (u ul : rsK → rsK) (e : rsK), e ≠ 0 ∧ (∀ x, t x * S x = r x + rs_pw x R * u x) ∧ (∀ x, tl x * S x = rl x + rs_pw x R * ul x) ∧ (∀ x, t x * rl x - tl x * r x = e * rs_pw x R) ∧ rs_B (R + 2 - nl) t ∧ rs_B (R + 2 - nl) tl ∧ rs_B (R + 2 - nl) u ∧ rs_B (R + 2 - nl) ul
theorem rs_I_0 (R : Nat) (S : rsK → rsK) {rl tl t : rsK → rsK} (h1 : ∀ x, rl x = rs_pw x R) (h2 : ∀ x, tl x = 0) (h3 : ∀ x, t x = 1) : rs_I R S (R + 1) rl S tl t := by
  have e1 : R + 2 - (R + 1) = 1 := by omega
  refine ⟨fun _ => 0, fun _ => -1, 1, rs_ne10, fun x => by rw [h3]; grind, fun x => by rw [h2, h1]; grind, fun x => by rw [h3, h2, h1]; grind, ?_, ?_, ?_, ?_⟩
  · rw [e1]; exact rs_B_cg (rs_B_c 1) h3
  · rw [e1]; exact rs_B_cg (rs_B_c 0) h2
  · rw [e1]; exact rs_B_c 0
  · rw [e1]; exact rs_B_c (-1)
theorem rs_I_s {R nl nr : Nat} {S rl r tl t q r' t' : rsK → rsK} (h : rs_I R S nl rl r tl t) (hl : nl ≤ R + 1) (hr : nr ≤ nl) (hq : rs_B (nl - nr + 1) q) (h1 : ∀ x, r' x = rl x - q x * r x) (h2 : ∀ x, t' x = tl x - q x * t x) : rs_I R S nr r r' t t' := by
  obtain ⟨u, ul, e, he, a1, a2, a3, b1, b2, b3, b4⟩ := h
  have hm : ∀ f : rsK → rsK, rs_B (R + 2 - nl) f → rs_B (R + 2 - nr) (fun x => q x * f x) := by
    intro f hf
    have e1 : R + 2 - nl = (R + 1 - nl) + 1 := by omega
    rw [e1] at hf
    exact rs_B_mono (rs_B_mul (nl - nr) (R + 1 - nl) q f hq hf) (by omega)
  have hw : ∀ f : rsK → rsK, rs_B (R + 2 - nl) f → rs_B (R + 2 - nr) f := fun f hf => rs_B_mono hf (by omega)
  have hne : -e ≠ 0 := by
    intro z
    have z1 : e = -(-e) := by grind
    rw [z] at z1
    exact he (z1.trans (by decide))
  refine ⟨fun x => ul x - q x * u x, u, -e, hne, fun x => ?_, a1, fun x => ?_, ?_, hw t b1, ?_, hw u b3⟩
  · have g1 := a1 x
    have g2 := a2 x
    rw [h1, h2]
    have g3 : (tl x - q x * t x) * S x = tl x * S x - q x * (t x * S x) := by grind
    rw [g3, g1, g2]; grind
  · have g1 := a3 x
    rw [h1, h2]
    have g3 : (tl x - q x * t x) * r x - t x * (rl x - q x * r x) = -(t x * rl x - tl x * r x) := by grind
    rw [g3, g1]; grind
  · exact rs_B_cg (rs_B_sub (hw tl b2) (hm t b1)) h2
  · exact rs_B_sub (hw ul b4) (hm u b3)
theorem rs_min {f : rsK → rsK} : ∀ {n : Nat}, rs_B n f → (∃ x, f x ≠ 0) → ∃ (k : Nat) (a : rsK), k < n ∧ a ≠ 0 ∧ rs_BL (k + 1) f a
  | 0, ⟨c, hc⟩, ⟨x, hx⟩ => absurd (by rw [hc]; rfl) hx
  | n + 1, ⟨c, hc⟩, hx => by
    by_cases h0 : c 0 = 0
    · have h1 : rs_B n f := ⟨fun j => c (j + 1), fun x => by rw [hc, rs_ev_front, h0]; grind⟩
      obtain ⟨k, a, hk, ha, hB⟩ := rs_min h1 hx
      exact ⟨k, a, by omega, ha, hB⟩
    · exact ⟨n, c 0, Nat.lt_succ_self n, h0, c, rfl, hc⟩
theorem rs_end {k nl : Nat} {rl r tl t : rsK → rsK} {L : List (rsK × rsK)} (hL : rs_ok L) (hv1 : 1 ≤ L.length) (hv : L.length ≤ k) (hk : k ≤ 8) (hI : rs_I (2 * k) (rs_sy (2 * k) L) nl rl r tl t) (h1 : k + 1 ≤ nl) (h2 : nl ≤ 2 * k + 1) (hr : rs_B k r) :
    t 0 ≠ 0 ∧ (∀ x, t x = t 0 * rs_lam L x) ∧ ∀ x, r x = t 0 * rs_om rs_w1 L x := by
  obtain ⟨u, ul, e, he, a1, a2, a3, b1, b2, b3, b4⟩ := hI
  have hn : 2 * k + 2 - nl ≤ k + 1 := by omega
  have b1 := rs_B_mono b1 hn
  have b2 := rs_B_mono b2 hn
  have b3 := rs_B_mono b3 hn
  have b4 := rs_B_mono b4 hn
  have cl := rs_lam_B L
  have co : ∀ w, rs_B ((L.length - 1) + 1) (rs_om w L) := fun w => by
    rw [show L.length - 1 + 1 = L.length by omega]
    exact rs_om_B w L
  have key := fun x => rs_key (2 * k) x L
  -- t om = r lam
  have hd : ∀ x, t x * rs_om rs_w1 L x - r x * rs_lam L x = 0 := by
    refine rs_low (R := 2 * k) (M := k + L.length + 1) (f := fun x => t x * rs_om rs_w1 L x - r x * rs_lam L x) (h := fun x => u x * rs_lam L x + t x * rs_om (rs_w2 (2 * k)) L x) ?_ ?_ (by omega) ?_
    · refine rs_B_sub (rs_B_mono (rs_B_mul k (L.length - 1) _ _ b1 (co rs_w1)) (by omega)) ?_
      have hr2 : rs_B ((k - 1) + 1) r := by
        rw [show k - 1 + 1 = k by omega]; exact hr
      exact rs_B_mono (rs_B_mul (k - 1) L.length _ _ hr2 cl) (by omega)
    · exact rs_B_add (rs_B_mul k L.length _ _ b3 cl) (rs_B_mono (rs_B_mul k (L.length - 1) _ _ b1 (co _)) (by omega))
    · intro x
      have g1 := a1 x
      have g2 := key x
      have g3 : rs_om rs_w1 L x = rs_sy (2 * k) L x * rs_lam L x + rs_pw x (2 * k) * rs_om (rs_w2 (2 * k)) L x := by rw [g2]; grind
      show t x * rs_om rs_w1 L x - r x * rs_lam L x = rs_pw x (2 * k) * (u x * rs_lam L x + t x * rs_om (rs_w2 (2 * k)) L x)
      rw [g3]
      have g4 : t x * (rs_sy (2 * k) L x * rs_lam L x + rs_pw x (2 * k) * rs_om (rs_w2 (2 * k)) L x) = (t x * rs_sy (2 * k) L x) * rs_lam L x + rs_pw x (2 * k) * (t x * rs_om (rs_w2 (2 * k)) L x) := by grind
      rw [g4, g1]; grind
  have hd : ∀ x, t x * rs_om rs_w1 L x = r x * rs_lam L x := fun x => rs_sub_eq (hd x)
  -- the cofactor
  have hw : ∃ w : rsK → rsK, rs_B (k + L.length + 1) w ∧ ∀ x, rs_pw x (2 * k) * w x = tl x * rs_om rs_w1 L x - rl x * rs_lam L x := by
    refine ⟨fun x => ul x * rs_lam L x + tl x * rs_om (rs_w2 (2 * k)) L x, rs_B_add (rs_B_mul k L.length _ _ b4 cl) (rs_B_mono (rs_B_mul k (L.length - 1) _ _ b2 (co _)) (by omega)), fun x => ?_⟩
    have g1 := a2 x
    have g2 := key x
    have g3 : rs_om rs_w1 L x = rs_sy (2 * k) L x * rs_lam L x + rs_pw x (2 * k) * rs_om (rs_w2 (2 * k)) L x := by rw [g2]; grind
    rw [g3]
    have g4 : tl x * (rs_sy (2 * k) L x * rs_lam L x + rs_pw x (2 * k) * rs_om (rs_w2 (2 * k)) L x) = (tl x * rs_sy (2 * k) L x) * rs_lam L x + rs_pw x (2 * k) * (tl x * rs_om (rs_w2 (2 * k)) L x) := by grind
    rw [g4, g1]; grind
  obtain ⟨w, hwB, hw⟩ := hw
  have htw0 : ∀ x, t x * w x + e * rs_lam L x = 0 := by
    refine rs_B_all1 (n := k + (k + L.length) + 1) 0 ?_ (by omega) (fun x hx => ?_)
    · exact rs_B_add (rs_B_mul k (k + L.length) t w b1 hwB) (rs_B_mono (rs_B_sm e cl) (by omega))
    · refine rs_dom (a := rs_pw x (2 * k)) ?_ (rs_pw_ne hx (2 * k))
      have g1 := hw x
      have g2 := a3 x
      have g3 := hd x
      have g4 : rs_pw x (2 * k) * (t x * w x + e * rs_lam L x) = t x * (rs_pw x (2 * k) * w x) + (e * rs_pw x (2 * k)) * rs_lam L x := by grind
      rw [g4, g1, ← g2]
      have g5 : t x * (tl x * rs_om rs_w1 L x - rl x * rs_lam L x) + (t x * rl x - tl x * r x) * rs_lam L x = tl x * (t x * rs_om rs_w1 L x) - tl x * (r x * rs_lam L x) := by grind
      rw [g5, g3]; grind
  have ht0w0 : t 0 * w 0 ≠ 0 := by
    intro z
    have g1 := htw0 0
    rw [z, rs_lam_0] at g1
    apply he
    have g2 : e = 0 + e * 1 := by grind
    rw [g2]; exact g1
  have ht0 : t 0 ≠ 0 := fun z => ht0w0 (by rw [z]; grind)
  have hw0 : w 0 ≠ 0 := fun z => ht0w0 (by rw [z]; grind)
  have htB : rs_B (L.length + 1) t := by
    obtain ⟨kt, a, hkt, ha, hta⟩ := rs_min b1 ⟨0, ht0⟩
    obtain ⟨kw, b, hkw, hb, hwb⟩ := rs_min hwB ⟨0, hw0⟩
    have hp := rs_BL_mul kt kw t w a b hta hwb
    have hle : kt + kw ≤ L.length := by
      apply Classical.byContradiction
      intro hgt
      have hs := rs_BL_add hp (rs_BL_mono0 (rs_B_sm e cl) (show L.length + 1 < kt + kw + 1 by omega))
      have hz := rs_BL_zero hs (by omega) (by omega) htw0
      have : a * b = a * b + 0 := by grind
      exact rs_mul_ne ha hb (by rw [this]; exact hz)
    exact rs_B_mono (rs_BL_B hta) (by omega)
  have hroot : ∀ x ∈ rs_ri L, t x = 0 := by
    intro x hx
    have hlx := (rs_lam_ri hL).mpr hx
    obtain ⟨q, hq, e1⟩ := List.mem_map.mp hx
    have hqx : q.1 * x = 1 := by rw [← e1]; exact rs_mul_iv (hL.2 q hq).1
    have g1 := hd x
    rw [hlx] at g1
    have g2 : rs_om rs_w1 L x * t x = 0 := by
      have : rs_om rs_w1 L x * t x = t x * rs_om rs_w1 L x := by grind
      rw [this, g1]; grind
    exact rs_dom g2 (rs_om_ne hL hq hqx)
  have ht : ∀ x, t x - t 0 * rs_lam L x = 0 := by
    refine rs_B_list (0 :: rs_ri L) (n := L.length + 1) (rs_B_sub htB (rs_B_sm (t 0) cl)) (List.nodup_cons.mpr ⟨fun h => rs_ri_ne 0 h rfl, rs_ri_nd hL⟩) (by rw [List.length_cons, rs_ri_len]; omega) (fun x hx => ?_)
    rcases List.mem_cons.mp hx with e1 | e1
    · rw [e1, rs_lam_0]; grind
    · rw [hroot x e1, (rs_lam_ri hL).mpr e1]; grind
  have ht : ∀ x, t x = t 0 * rs_lam L x := fun x => rs_sub_eq (ht x)
  refine ⟨ht0, ht, fun x => rs_sub_eq (?_ : (fun x => r x - t 0 * rs_om rs_w1 L x) x = 0)⟩
  refine rs_lam_cancel (n := k) L (fun x => r x - t 0 * rs_om rs_w1 L x) (fun q hq => (hL.2 q hq).1) (rs_B_sub hr (rs_B_mono (rs_B_sm (t 0) (rs_om_B rs_w1 L)) hv)) (by omega) (fun y => ?_) x
  have g1 := hd y
  rw [ht y] at g1
  have g2 : rs_lam L y * (r y - t 0 * rs_om rs_w1 L y) = r y * rs_lam L y - t 0 * rs_lam L y * rs_om rs_w1 L y := by grind
  rw [g2, g1]; grind
/-- the length of a normal form -/
theorem rs_len {n m : Nat} {c : Nat → rsK} (hn : n ≤ 929) (hc : 1 < n → c 0 ≠ 0) (hB : rs_B m (fun x => rs_ev c n x)) : n ≤ m ∨ n ≤ 1 := by
  apply Classical.byContradiction
  intro h
  have h1 : m < n ∧ 1 < n := by omega
  obtain ⟨d, hd⟩ := hB
  have h2 : rs_BL n (fun x => rs_ev c n x + (-1) * rs_ev d m x) (c 0 + 0) := rs_BL_add (f := fun x => rs_ev c n x) ⟨c, rfl, fun _ => rfl⟩ (rs_BL_mono0 (rs_B_sm (-1) (rs_B_of d m)) h1.1)
  have h3 := rs_BL_zero h2 (by omega) hn (fun x => by have := hd x; simp only [] at this; rw [this]; grind)
  have h4 : c 0 = c 0 + 0 := by grind
  exact hc h1.2 (by rw [h4]; exact h3)
theorem rs_lam_len {L : List (rsK × rsK)} (hL : rs_ok L) {n : Nat} {c : Nat → rsK} {a : rsK} (ha : a ≠ 0) (hv : L.length ≤ 900) (hn : n ≤ 929) (h1 : 1 ≤ n) (hc : 1 < n → c 0 ≠ 0) (he : ∀ x, rs_ev c n x = a * rs_lam L x) : n = L.length + 1 := by
  have hB : rs_B (L.length + 1) (fun x => rs_ev c n x) := rs_B_cg (rs_B_sm a (rs_lam_B L)) he
  have h2 : n ≤ L.length + 1 := by
    rcases rs_len hn hc hB with h | h
    · exact h
    · omega
  apply Classical.byContradiction
  intro h3
  have h4 : ∀ j, j < n → c j = 0 := rs_roots n c (rs_ri L) (rs_ri_nd hL) (by rw [rs_ri_len]; omega) (fun x hx => by rw [he, (rs_lam_ri hL).mpr hx]; grind)
  have h5 := he 0
  rw [rs_ev_z n h4, rs_lam_0] at h5
  apply ha
  have h6 : a = a * 1 := by grind
  rw [h6, ← h5]
-- ===== the derivative =====
def rs_dv (c : Nat → rsK) : Nat → rsK → rsK
  | 0, _ => 0
  | n + 1, x => rs_dv c n x * x + rs_ev c n x
theorem rs_dv_q (c : Nat → rsK) (r : rsK) : ∀ n, rs_dv c (n + 1) r = rs_ev (rs_q c r) n r
  | 0 => by show (0 : rsK) * r + 0 = 0; grind
  | n + 1 => by
    show rs_dv c (n + 1) r * r + rs_ev c (n + 1) r = rs_ev (rs_q c r) n r * r + rs_ev c (n + 1) r
    rw [rs_dv_q c r n]
def rs_n (i : Nat) : rsK := Fin.ofNat 929 i
theorem rs_n_s (i : Nat) : rs_n (i + 1) = rs_n i + 1 := by
  apply Fin.ext
  show (i + 1) % 929 = (i % 929 + 1) % 929
  omega
theorem rs_n_0 : rs_n 0 = 0 := rfl
theorem rs_n_val {i : Nat} (h : i < 929) : (rs_n i).val = i := Nat.mod_eq_of_lt h
theorem rs_n_of (a : rsK) : rs_n a.val = a := Fin.ext (Nat.mod_eq_of_lt a.isLt)
theorem rs_dv_code (c : Nat → rsK) (x : rsK) : ∀ k, rs_ev (fun j => rs_n (k - j) * c j) k x = rs_dv c (k + 1) x
  | 0 => by show (0 : rsK) = 0 * x + 0; grind
  | k + 1 => by
    have ih := rs_dv_code c x k
    rw [rs_ev_s, rs_ev_cg k (d := fun j => (fun j => rs_n (k - j) * c j) j + c j) (fun j hj => by
      show rs_n (k + 1 - j) * c j = rs_n (k - j) * c j + c j
      rw [show k + 1 - j = (k - j) + 1 by omega, rs_n_s]; grind) x, rs_ev_ad, ih]
    show (rs_dv c (k + 1) x + rs_ev c k x) * x + rs_n (k + 1 - k) * c k = rs_dv c (k + 1) x * x + (rs_ev c k x * x + c k)
    rw [show k + 1 - k = 0 + 1 by omega, rs_n_s, rs_n_0]; grind
theorem rs_forney {L : List (rsK × rsK)} (hL : rs_ok L) (hv : L.length ≤ 900) {c : Nat → rsK} (hc : ∀ x, rs_ev c (L.length + 1) x = rs_lam L x) {q : rsK × rsK} (hq : q ∈ L) {x : rsK} (hx : q.1 * x = 1) :
    rs_dv c (L.length + 1) x ≠ 0 ∧ (0 - rs_om rs_w1 L x) * rs_iv (rs_dv c (L.length + 1) x) = q.2 := by
  obtain ⟨A, B, e, hA, hB⟩ := rs_split hL hq hx
  have hlen : A.length + (B.length + 1) = L.length := by rw [e, List.length_append, List.length_cons]
  have hd : rs_dv c (L.length + 1) x = -(q.1 * (rs_lam A x * rs_lam B x)) := by
    rw [rs_dv_q]
    have h1 : rs_ev c (L.length + 1) x = 0 := by rw [hc]; exact rs_lam_at hq hx
    have h2 : ∀ y, rs_ev (rs_q c x) L.length y + q.1 * (rs_lam A y * rs_lam B y) = 0 := by
      refine rs_B_all1 (n := L.length) x ?_ (by omega) (fun y hy => ?_)
      · exact rs_B_add (rs_B_of _ _) (rs_B_sm q.1 (rs_B_mono (rs_B_mul A.length B.length _ _ (rs_lam_B A) (rs_lam_B B)) (by omega)))
      · have h3 := rs_syd c x L.length y
        rw [h1, hc, e, rs_lam_ap] at h3
        have h4 : rs_lam (q :: B) y = (1 - q.1 * y) * rs_lam B y := rfl
        rw [h4] at h3
        refine rs_dom (a := y - x) ?_ (rs_sub_ne hy)
        have h5 : (y - x) * (rs_ev (rs_q c x) (A ++ q :: B).length y + q.1 * (rs_lam A y * rs_lam B y)) = ((y - x) * rs_ev (rs_q c x) (A ++ q :: B).length y + 0) + (q.1 * y - q.1 * x) * (rs_lam A y * rs_lam B y) := by grind
        rw [e, h5, ← h3, hx]; grind
    have h6 := h2 x
    have h7 : rs_ev (rs_q c x) L.length x = (rs_ev (rs_q c x) L.length x + q.1 * (rs_lam A x * rs_lam B x)) - q.1 * (rs_lam A x * rs_lam B x) := by grind
    rw [h7, h6]; grind
  have hne : rs_dv c (L.length + 1) x ≠ 0 := by
    rw [hd]
    intro z
    have z1 : q.1 * (rs_lam A x * rs_lam B x) = -(-(q.1 * (rs_lam A x * rs_lam B x))) := by grind
    exact rs_mul_ne (hL.2 q hq).1 (rs_mul_ne hA hB) (by rw [z1, z]; decide)
  refine ⟨hne, ?_⟩
  have ho : rs_om rs_w1 L x = q.2 * q.1 * (rs_lam A x * rs_lam B x) := by rw [e, rs_om_at hx]
  have h8 : 0 - rs_om rs_w1 L x = q.2 * rs_dv c (L.length + 1) x := by rw [ho, hd]; grind
  have h9 := rs_mul_iv hne
  rw [h8]
  have h10 : q.2 * rs_dv c (L.length + 1) x * rs_iv (rs_dv c (L.length + 1) x) = q.2 * (rs_dv c (L.length + 1) x * rs_iv (rs_dv c (L.length + 1) x)) := by grind
  rw [h10, h9]; grind
-- ===== counting =====
theorem rs_ph {l m : List rsK} (hd : l.Nodup) (h : ∀ x ∈ l, x ∈ m) : l.length ≤ m.length := by
  induction l generalizing m with
  | nil => exact Nat.zero_le _
  | cons a l ih =>
    have h1 := List.nodup_cons.mp hd
    have ha := h a List.mem_cons_self
    have h2 := ih (m := m.erase a) h1.2 (fun x hx => (List.mem_erase_of_ne (show x ≠ a from fun e => h1.1 (by rw [← e]; exact hx))).mpr (h x (List.mem_cons_of_mem _ hx)))
    rw [List.length_erase_of_mem ha] at h2
    have h3 : 0 < m.length := List.length_pos_of_mem ha
    rw [List.length_cons]
    omega
theorem rs_ph2 {l m : List rsK} (hd : l.Nodup) (h : ∀ x ∈ l, x ∈ m) (hl : m.length ≤ l.length) : ∀ x ∈ m, x ∈ l := by
  intro x hx
  apply Classical.byContradiction
  intro hn
  have h1 := rs_ph (l := x :: l) (m := m) (List.nodup_cons.mpr ⟨hn, hd⟩) (fun y hy => by
    rcases List.mem_cons.mp hy with e | e
    · rw [e]; exact hx
    · exact h y e)
  rw [List.length_cons] at h1
  omega
-- ===== the errors of a word =====
def rs_sv (i : Nat) : List (rsK × rsK) → rsK
  | [] => 0
  | q :: t => q.2 * rs_pw q.1 i + rs_sv i t
theorem rs_sv_geo (R : Nat) (X e x : rsK) : rs_ev (fun j => e * rs_pw X (R - j)) R x = e * X * rs_geo (X * x) R := by
  induction R with
  | zero => show (0 : rsK) = e * X * 0; grind
  | succ R ih =>
    rw [rs_ev_front, rs_ev_cg R (d := fun j => e * rs_pw X (R - j)) (fun j hj => by rw [show R + 1 - (j + 1) = R - j by omega]) x, ih]
    show e * rs_pw X (R + 1 - 0) * rs_pw x R + e * X * rs_geo (X * x) R = e * X * (rs_geo (X * x) R + rs_pw (X * x) R)
    rw [rs_pw_mul, show R + 1 - 0 = R + 1 by omega, rs_pw_s]; grind
theorem rs_sv_sy (R : Nat) (x : rsK) : ∀ L : List (rsK × rsK), rs_ev (fun j => rs_sv (R - j) L) R x = rs_sy R L x
  | [] => rs_ev_z R (fun _ _ => rfl) x
  | q :: t => by
    have ih := rs_sv_sy R x t
    have h1 := rs_ev_ad (fun j => q.2 * rs_pw q.1 (R - j)) (fun j => rs_sv (R - j) t) R x
    rw [rs_sv_geo, ih] at h1
    exact h1
def rs_el (c : Nat → rsK) (N : Nat) : Nat → List (rsK × rsK)
  | 0 => []
  | n + 1 => if c n = 0 then rs_el c N n else (rs_x (N - 1 - n), c n) :: rs_el c N n
theorem rs_el_sv (c : Nat → rsK) (N i : Nat) : ∀ n, n ≤ N → rs_sv i (rs_el c N n) = rs_ev c n (rs_x i) * rs_pw (rs_x i) (N - n)
  | 0, _ => by show (0 : rsK) = 0 * _; grind
  | n + 1, h => by
    have ih := rs_el_sv c N i n (by omega)
    have e1 : N - n = (N - (n + 1)) + 1 := by omega
    have e2 : rs_pw (rs_x (N - 1 - n)) i = rs_pw (rs_x i) (N - (n + 1)) := by
      rw [rs_x_pw2, show N - 1 - n = N - (n + 1) by omega]
    rw [e1, rs_pw_s] at ih
    unfold rs_el
    rw [rs_ev_s]
    by_cases h0 : c n = 0
    · rw [if_pos h0, ih, h0]; grind
    · rw [if_neg h0]
      show c n * rs_pw (rs_x (N - 1 - n)) i + rs_sv i (rs_el c N n) = _
      rw [e2, ih]; grind
theorem rs_el_syn (c : Nat → rsK) (N i : Nat) : rs_sv i (rs_el c N N) = rs_ev c N (rs_x i) := by
  rw [rs_el_sv c N i N (Nat.le_refl N), Nat.sub_self, rs_pw_0]; grind
theorem rs_el_mem {c : Nat → rsK} {N : Nat} {q : rsK × rsK} : ∀ {n : Nat}, n ≤ N → q ∈ rs_el c N n → ∃ j, j < n ∧ q = (rs_x (N - 1 - j), c j) ∧ c j ≠ 0
  | 0, _, h => absurd h (by simp [rs_el])
  | n + 1, hn, h => by
    unfold rs_el at h
    by_cases h0 : c n = 0
    · rw [if_pos h0] at h
      obtain ⟨j, h1, h2⟩ := rs_el_mem (by omega) h
      exact ⟨j, by omega, h2⟩
    · rw [if_neg h0] at h
      rcases List.mem_cons.mp h with e | e
      · exact ⟨n, Nat.lt_succ_self n, e, h0⟩
      · obtain ⟨j, h1, h2⟩ := rs_el_mem (by omega) e
        exact ⟨j, by omega, h2⟩
theorem rs_el_in {c : Nat → rsK} {N j : Nat} (h0 : c j ≠ 0) : ∀ {n : Nat}, j < n → (rs_x (N - 1 - j), c j) ∈ rs_el c N n
  | 0, h => absurd h (Nat.not_lt_zero j)
  | n + 1, h => by
    unfold rs_el
    by_cases hj : j = n
    · subst hj
      rw [if_neg h0]
      exact List.mem_cons_self
    · by_cases h1 : c n = 0
      · rw [if_pos h1]; exact rs_el_in h0 (by omega)
      · rw [if_neg h1]; exact List.mem_cons_of_mem _ (rs_el_in h0 (by omega))
theorem rs_el_nd {c : Nat → rsK} {N : Nat} (hN : N ≤ 928) : ∀ {n : Nat}, n ≤ N → ((rs_el c N n).map Prod.fst).Nodup
  | 0, _ => List.nodup_nil
  | n + 1, hn => by
    unfold rs_el
    by_cases h0 : c n = 0
    · rw [if_pos h0]; exact rs_el_nd hN (by omega)
    · rw [if_neg h0, List.map_cons]
      refine List.nodup_cons.mpr ⟨fun hm => ?_, rs_el_nd hN (by omega)⟩
      obtain ⟨q, hq, e⟩ := List.mem_map.mp hm
      obtain ⟨j, h1, h2, -⟩ := rs_el_mem (by omega) hq
      rw [h2] at e
      have h3 := rs_x_inj (show N - 1 - j < 928 by omega) (show N - 1 - n < 928 by omega) e
      omega
theorem rs_el_ok {c : Nat → rsK} {N : Nat} (hN : N ≤ 928) : rs_ok (rs_el c N N) := by
  refine ⟨rs_el_nd hN (Nat.le_refl N), fun q hq => ?_⟩
  obtain ⟨j, -, h2, h3⟩ := rs_el_mem (Nat.le_refl N) hq
  rw [h2]
  exact ⟨rs_x_ne _, h3⟩
/-- a word without a syndrome has no errors, where they are few -/
theorem rs_none {k : Nat} {L : List (rsK × rsK)} (hL : rs_ok L) (hv : L.length ≤ k) (hk : k ≤ 8) (h : ∀ x, rs_sy (2 * k) L x = 0) : L = [] := by
  cases hLe : L with
  | nil => rfl
  | cons q t =>
    exfalso
    have hq : q ∈ L := by rw [hLe]; exact List.mem_cons_self
    have hlen : 0 < L.length := List.length_pos_of_mem hq
    have h1 : ∀ x, rs_om rs_w1 L x = 0 := by
      refine rs_low (R := 2 * k) (M := L.length) (h := rs_om (rs_w2 (2 * k)) L) (rs_B_mono (rs_om_B rs_w1 L) (by omega)) (rs_om_B _ L) (by omega) (fun x => ?_)
      have h2 := rs_key (2 * k) x L
      rw [h x] at h2
      have h3 : rs_om rs_w1 L x = (rs_om rs_w1 L x - rs_pw x (2 * k) * rs_om (rs_w2 (2 * k)) L x) + rs_pw x (2 * k) * rs_om (rs_w2 (2 * k)) L x := by grind
      rw [h3, ← h2]; grind
    exact rs_om_ne hL hq (rs_mul_iv (hL.2 q hq).1) (h1 _)
end
section
/-! BASE: the worlds of this claim; contracts; rows over numbers below 929 -/
abbrev kI (a : rsK) : Int32 := nI a.val
abbrev rsCl : List vw_C := [(RX4, TX4, 2), (RX2, TX2, 1), (RX1, TX1, 7)]
/-- classes; the int arrays' class; addresses: 0 the field, 1 exp, 2 log, 3 zero, 4 its array, 5 one, 6 its array -/
abbrev rsE : Type := va_G × ClassId × (Nat → Nat)
def rs_no : Nat → Prop := fun _ => False
def rs_KK (E : rsE) (U : State) : Prop := va_K E.1 rsCl [(E.2.1, .int)] U ∧ va_AO "ModulusPoly" U
/-- an int array whose length is read as n (a cell of the start might be longer: its length is known as an int), with the numbers cf -/
def rs_A (E : rsE) (H : Heap) (a n : Nat) (cf : Nat → rsK) : Prop := ∃ (N : Nat) (g : Nat → Value), H[a]? = some (arrV E.2.1 N g) ∧ n ≤ N ∧ nI N = nI n ∧ ∀ j, j < n → g j = .int (kI (cf j))
def rs_O (E : rsE) (H : Heap) (a ci : Nat) (fs : List Value) : Prop := va_at E.1 rsCl (a, .inr (ci, fs)) H
def rs_P (E : rsE) (H : Heap) (a n : Nat) (cf : Nat → rsK) : Prop := ∃ b, rs_O E H a 0 [.ref (E.2.2 0), .ref b] ∧ rs_A E H b n cf
def rs_X (w : Nat → Prop) (H H1 : Heap) : Prop := H.size ≤ H1.size ∧ ∀ q : Nat, q < H.size → ¬ w q → H1[q]? = H[q]?
def rs_W0 (w : Nat → Prop) (sz : Nat) : Nat → Prop := fun q => w q ∨ sz ≤ q
def rs_FA (E : rsE) : Nat → Prop := fun q => ∀ i, i < 8 → q ≠ E.2.2 i
def rs_F (E : rsE) (U : State) (H : Heap) : Prop :=
  va_O "ModulusGF" (E.2.2 0) (rs_FA E) U H ∧
  va_OF "ModulusGF" "expTable" "[I" (.ref (E.2.2 1)) (E.2.2 0) (rs_FA E) U H ∧
  va_OF "ModulusGF" "logTable" "[I" (.ref (E.2.2 2)) (E.2.2 0) (rs_FA E) U H ∧
  va_OF "ModulusGF" "zero" "LModulusPoly;" (.ref (E.2.2 3)) (E.2.2 0) (rs_FA E) U H ∧
  va_OF "ModulusGF" "one" "LModulusPoly;" (.ref (E.2.2 5)) (E.2.2 0) (rs_FA E) U H ∧
  va_OF "ModulusGF" "modulus" "I" (.int (nI 929)) (E.2.2 0) (rs_FA E) U H ∧
  rs_A E H (E.2.2 1) 929 rs_x ∧ rs_A E H (E.2.2 2) 929 (fun i => rs_n (rs_L.getD i 0)) ∧
  rs_O E H (E.2.2 3) 0 [.ref (E.2.2 0), .ref (E.2.2 4)] ∧ rs_A E H (E.2.2 4) 1 (fun _ => 0) ∧
  rs_O E H (E.2.2 5) 0 [.ref (E.2.2 0), .ref (E.2.2 6)] ∧ rs_A E H (E.2.2 6) 1 (fun _ => 1) ∧
  va_Z "ModulusGF" "PDF417_GF" "LModulusGF;" (.ref (E.2.2 0)) (rs_FA E) U H
theorem va_P1 {D : va_G} {cl : List vw_C} {q : Nat × va_E} {H : Heap} (h : va_at D cl q H) : va_P D cl [q] H := by
  intro k x hk
  cases k with
  | zero => cases hk; exact h
  | succ k => cases hk
theorem va_D1 {A : Nat → Prop} {q : Nat × va_E} (h : A q.1) : va_D A [q] := by
  refine ⟨fun i j x y hi hj _ => ?_, fun k x hk => ?_⟩
  · cases i with
    | zero => cases j with
      | zero => rfl
      | succ j => cases hj
    | succ i => cases hi
  · cases k with
    | zero => cases hk; exact h
    | succ k => cases hk
theorem rs_A.of {E : rsE} {H : Heap} {a n : Nat} {cf : Nat → rsK} {g : Nat → Value} (h : H[a]? = some (arrV E.2.1 n g)) (hf : ∀ j, j < n → g j = .int (kI (cf j))) : rs_A E H a n cf := ⟨n, g, h, Nat.le_refl n, rfl, hf⟩
theorem rs_A.cg {E : rsE} {H : Heap} {a n : Nat} {cf df : Nat → rsK} (h : rs_A E H a n cf) (hf : ∀ j, j < n → cf j = df j) : rs_A E H a n df := by
  obtain ⟨N, g, h1, h2, h3, h4⟩ := h
  exact ⟨N, g, h1, h2, h3, fun j hj => by rw [h4 j hj, hf j hj]⟩
theorem rs_A.lt {E : rsE} {H : Heap} {a n : Nat} {cf : Nat → rsK} (h : rs_A E H a n cf) : a < H.size := by
  obtain ⟨N, g, h1, -⟩ := h
  exact (Array.getElem?_eq_some_iff.mp h1).1
theorem rs_O.lt {E : rsE} {H : Heap} {a ci : Nat} {fs : List Value} (h : rs_O E H a ci fs) : a < H.size := va_at.lt h
theorem rs_X.rf {w : Nat → Prop} {H : Heap} : rs_X w H H := ⟨Nat.le_refl _, fun _ _ _ => rfl⟩
theorem rs_X.trans {w : Nat → Prop} {H H1 H2 : Heap} (h : rs_X w H H1) (g : rs_X w H1 H2) : rs_X w H H2 :=
  ⟨Nat.le_trans h.1 g.1, fun q hq hw => by rw [g.2 q (Nat.lt_of_lt_of_le hq h.1) hw, h.2 q hq hw]⟩
theorem rs_X.wk {w v : Nat → Prop} {H H1 : Heap} (h : rs_X w H H1) (hv : ∀ q, q < H.size → w q → v q) : rs_X v H H1 := ⟨h.1, fun q hq hn => h.2 q hq (fun z => hn (hv q hq z))⟩
theorem rs_X.no {w : Nat → Prop} {H H1 : Heap} (h : rs_X rs_no H H1) : rs_X w H H1 := h.wk (fun _ _ z => z.elim)
theorem rs_X.st {w : Nat → Prop} {H0 H H1 : Heap} {a : Nat} (h : rs_X w H0 H) (ha : w a ∨ H0.size ≤ a) (z : H1.size = H.size) (o : ∀ q : Nat, q ≠ a → H1[q]? = H[q]?) : rs_X w H0 H1 :=
  ⟨by rw [z]; exact h.1, fun q hq hw => by
    rw [o q (fun e => by
      rcases ha with ha | ha
      · exact hw (e ▸ ha)
      · omega)]
    exact h.2 q hq hw⟩
theorem rs_S.X {w : Nat → Prop} {H0 H : Heap} {locs : List Loc} (h : va_S (rs_W0 w H0.size) H0 H locs) : rs_X w H0 H :=
  ⟨h.1, fun q hq hw => h.2.1 q hq (fun z => by
    rcases z with z | z
    · exact hw z
    · omega)⟩
theorem rs_A.kept {E : rsE} {H H1 : Heap} {a n : Nat} {cf : Nat → rsK} {w : Nat → Prop} (h : rs_A E H a n cf) (hX : rs_X w H H1) (hw : ¬ w a) : rs_A E H1 a n cf := by
  have h0 := hX.2 a h.lt hw
  obtain ⟨N, g, h1, h2⟩ := h
  exact ⟨N, g, by rw [h0]; exact h1, h2⟩
theorem rs_O.kept {E : rsE} {H H1 : Heap} {a ci : Nat} {fs : List Value} {w : Nat → Prop} (h : rs_O E H a ci fs) (hX : rs_X w H H1) (hw : ¬ w a) : rs_O E H1 a ci fs := va_at.kept h (hX.2 a (rs_O.lt h) hw)
theorem rs_A.k0 {E : rsE} {H H1 : Heap} {a n : Nat} {cf : Nat → rsK} (h : rs_A E H a n cf) (hX : rs_X rs_no H H1) : rs_A E H1 a n cf := h.kept hX (fun z => z)
theorem rs_O.k0 {E : rsE} {H H1 : Heap} {a ci : Nat} {fs : List Value} (h : rs_O E H a ci fs) (hX : rs_X rs_no H H1) : rs_O E H1 a ci fs := h.kept hX (fun z => z)
theorem rs_P.k0 {E : rsE} {H H1 : Heap} {a n : Nat} {cf : Nat → rsK} (h : rs_P E H a n cf) (hX : rs_X rs_no H H1) : rs_P E H1 a n cf := by
  obtain ⟨b, h1, h2⟩ := h
  exact ⟨b, h1.k0 hX, h2.k0 hX⟩
theorem rs_P.cg {E : rsE} {H : Heap} {a n : Nat} {cf df : Nat → rsK} (h : rs_P E H a n cf) (hf : ∀ j, j < n → cf j = df j) : rs_P E H a n df := by
  obtain ⟨b, h1, h2⟩ := h
  exact ⟨b, h1, h2.cg hf⟩
/-- a store into a cell that wasn't there when the fact was made -/
theorem rs_A.st {E : rsE} {H H1 : Heap} {a q n : Nat} {cf : Nat → rsK} (h : rs_A E H a n cf) (o : ∀ x : Nat, x ≠ q → H1[x]? = H[x]?) (ha : a ≠ q) : rs_A E H1 a n cf := by
  obtain ⟨N, g, h1, h2⟩ := h
  exact ⟨N, g, by rw [o a ha]; exact h1, h2⟩
theorem rs_O.st {E : rsE} {H H1 : Heap} {a q ci : Nat} {fs : List Value} (h : rs_O E H a ci fs) (o : ∀ x : Nat, x ≠ q → H1[x]? = H[x]?) (ha : a ≠ q) : rs_O E H1 a ci fs := va_at.kept h (o a ha)
theorem rs_KK.moved {E : rsE} {u U : State} (hvm : u.vm.Alike U.vm) (h : rs_KK E u) : rs_KK E U := ⟨va_K.moved hvm h.1, va_AO.moved hvm h.2⟩
theorem rs_F.moved {E : rsE} {u U : State} {H : Heap} (hvm : u.vm.Alike U.vm) (h : rs_F E u H) : rs_F E U H := by
  obtain ⟨h0, h1, h2, h3, h4, h5, h6, h7, h8, h9, h10, h11, h12⟩ := h
  exact ⟨va_O.moved hvm h0, va_OF.moved hvm h1, va_OF.moved hvm h2, va_OF.moved hvm h3, va_OF.moved hvm h4, va_OF.moved hvm h5, h6, h7, h8, h9, h10, h11, va_Z.moved hvm h12⟩
theorem rs_F.kept {E : rsE} {U : State} {H H1 : Heap} {w : Nat → Prop} (h : rs_F E U H) (hX : rs_X w H H1) (hw : ∀ i, i < 8 → ¬ w (E.2.2 i)) : rs_F E U H1 := by
  obtain ⟨h0, h1, h2, h3, h4, h5, h6, h7, h8, h9, h10, h11, h12⟩ := h
  have hk : ∀ a : Nat, a < H.size → ¬ rs_FA E a → H1[a]? = H[a]? := by
    intro a ha hn
    refine hX.2 a ha (fun hwa => hn (fun i hi e => hw i hi (e ▸ hwa)))
  exact ⟨h0.kept hk, h1.kept hk, h2.kept hk, h3.kept hk, h4.kept hk, h5.kept hk, h6.kept hX (hw 1 (by omega)), h7.kept hX (hw 2 (by omega)), h8.kept hX (hw 3 (by omega)), h9.kept hX (hw 4 (by omega)), h10.kept hX (hw 5 (by omega)), h11.kept hX (hw 6 (by omega)), h12.kept hk⟩
theorem rs_F.k0 {E : rsE} {U : State} {H H1 : Heap} (h : rs_F E U H) (hX : rs_X rs_no H H1) : rs_F E U H1 := h.kept hX (fun _ _ z => z)
theorem rs_F.lt {E : rsE} {U : State} {H : Heap} (h : rs_F E U H) : ∀ i, i < 7 → E.2.2 i < H.size := by
  obtain ⟨⟨cell, h0, -⟩, -, -, -, -, -, h6, h7, h8, h9, h10, h11, -⟩ := h
  intro i hi
  match i, hi with
  | 0, _ => exact (Array.getElem?_eq_some_iff.mp h0).1
  | 1, _ => exact h6.lt
  | 2, _ => exact h7.lt
  | 3, _ => exact h8.lt
  | 4, _ => exact h9.lt
  | 5, _ => exact h10.lt
  | 6, _ => exact h11.lt
  | i + 7, hi => omega
theorem rs_F.zero {E : rsE} {U : State} {H : Heap} (h : rs_F E U H) : rs_P E H (E.2.2 3) 1 (fun _ => 0) := by
  obtain ⟨-, -, -, -, -, -, -, -, h8, h9, -⟩ := h
  exact ⟨_, h8, h9⟩
theorem rs_F.one {E : rsE} {U : State} {H : Heap} (h : rs_F E U H) : rs_P E H (E.2.2 5) 1 (fun _ => 1) := by
  obtain ⟨-, -, -, -, -, -, -, -, -, -, h10, h11, -⟩ := h
  exact ⟨_, h10, h11⟩
-- ===== contracts =====
def rs_Pre (E : rsE) (sz : Nat) (pre : Heap → Prop) (U : State) : Prop := U.heap.size = sz ∧ rs_KK E U ∧ rs_F E U U.heap ∧ pre U.heap
def rs_Ci (E : rsE) (l : Launch) (y : MethodName) (cy : ByteArray) (mL : Nat) (rt : FieldType) (rm : Room) (w : Nat → Prop) (av : List Value) (pre : Heap → Prop) (post : Int32 → Heap → Prop) : Prop :=
  ∀ sz, Met l y (ws_ y cy mL (some rt)) rm (va_Pc av (rs_Pre E sz pre)) (va_Qi (fun (r u : Int32) => r = u) (fun u t => post u t.heap) (rs_W0 w sz)) rm.cells rm.slots (rs_W0 w sz)
def rs_Cr (E : rsE) (l : Launch) (y : MethodName) (cy : ByteArray) (mL : Nat) (rt : FieldType) (rm : Room) (w : Nat → Prop) (av : List Value) (pre : Heap → Prop) (post : State → Nat → Heap → Prop) : Prop :=
  ∀ sz, Met l y (ws_ y cy mL (some rt)) rm (va_Pc av (rs_Pre E sz pre)) (va_Qr (fun _ : Unit => True) (fun _ r t => post t r t.heap) (rs_W0 w sz)) rm.cells rm.slots (rs_W0 w sz)
def rs_Cv (E : rsE) (l : Launch) (y : MethodName) (cy : ByteArray) (mL : Nat) (rm : Room) (w : Nat → Prop) (av : List Value) (pre : Heap → Prop) (post : Heap → Prop) : Prop :=
  ∀ sz, Met l y (ws_ y cy mL none) rm (va_Pc av (rs_Pre E sz pre)) (va_Qv (fun _ : Unit => True) (fun _ t => post t.heap) (rs_W0 w sz)) rm.cells rm.slots (rs_W0 w sz)
theorem rs_start {l : Launch} {y : MethodName} {cy : ByteArray} {mL sz : Nat} {ret : Option FieldType} {rm : Room} {E : rsE} {pre : Heap → Prop} {av : List Value} {Qc : Array Value → State → Outcome → State → Prop} {mc ms : Nat} {free : Addr → Prop} (hy : plainName y.cls = true) (hlen : (lg_sl av).length ≤ mL)
    (body : ∀ (p : Program) (e : Env) (s : State) (m : MethodId) (below : List Frame) (meth : Method) (c : Code), p.tables.exec = Jvm.exec → c.code = cy → meth.sig.returnType = ret → meth.locks = false → c.maxLocals = mL → s.vm.findClass y.cls = some m.cls → (∀ w ∈ lw_all, w.before av.toArray s = true) → meth.name = y.name → s.heap.size = sz → rs_KK E s → rs_F E s s.heap → pre s.heap →
      ∀ ls : Array Slot, lv_has ls mL (lv_args 0 av) → W p l e rm s m av.toArray below meth c s.heap [] 0 0 (MQ below Qc av.toArray s mc ms free) (F0 m 0 ls [])) :
    Met l y (ws_ y cy mL ret) rm (va_Pc av (rs_Pre E sz pre)) Qc mc ms free := by
  refine Met.ofW (cc := cy) (maxL := mL) (ret := ret) hy rfl ?_
  intro p e s m args below meth c s₁ B hml hv
  obtain ⟨rfl, hsz, hK, hF, hpre⟩ := hv
  have hts := atoms_spec (ws := ws_ y cy mL ret) B.pre
  have hts : ∀ w ∈ lw_all, w.before _ s = true := fun w h => hts w (List.mem_cons_of_mem _ h)
  have hl := lv_entry av (n := mL) hlen
  rw [lg_entry_eq]
  exact body p e s m below meth c B.exec B.bytes B.returns B.notSynchronized hml (findClass_of_methodNamed B.named) hts (name_of_methodNamed B.named B.method).1 hsz hK hF hpre _ hl
theorem rs_Pre.blind {E : rsE} {sz : Nat} {pre : Heap → Prop} {av : List Value} : FrameBlind (va_Pc av (rs_Pre E sz pre)) := by
  intro a U g mk q
  obtain ⟨q0, q1, qK, qF, qp⟩ := q
  exact ⟨q0, q1, rs_KK.moved (u := U) (U := U.calling g mk a) (Vm.Alike.refl U.vm) qK, rs_F.moved (u := U) (U := U.calling g mk a) (Vm.Alike.refl U.vm) qF, qp⟩
theorem rs_Pre.now {E : rsE} {pre : Heap → Prop} {av : List Value} {s : State} {H : Heap} (hK : rs_KK E s) (hF : rs_F E s H) (hp : pre H) : ∀ U : State, U.heap = H → s.WarmedH U.vm → va_Pc av (rs_Pre E H.size pre) av.toArray U := by
  intro U hU hW
  exact ⟨rfl, by rw [hU], hK.moved hW.alike, by rw [hU]; exact hF.moved hW.alike, by rw [hU]; exact hp⟩
/-- what a call through an object asks of the tables -/
def rs_vf (y : MethodName) (C : String) (cy : ByteArray) (mL : Nat) (ret : Option FieldType) (n : Nat) : Prop :=
  (y.cls = C ∧ y.cls ≠ "java/lang/invoke/MethodHandle" ∧ y.cls ≠ "java/lang/invoke/VarHandle" ∧ (parseMethodDescriptor y.desc).map (fun d => d.parameters.length) = some n) ∧ Cond.instanceMethod y ∈ lw_all ∧ Cond.selects C y y ∈ lw_all ∧ Cond.initialized C ∈ lw_all ∧ Cond.code y cy mL ret ∈ lw_all
def rs_rc (s : State) (H : Heap) (C : String) (b : Nat) : Prop := ∃ cell : Cell, H[b]? = some cell ∧ cell.vm.isStatics = false ∧ s.vm.findClass C = some cell.cls
theorem rs_F.rc {E : rsE} {s : State} {H : Heap} (h : rs_F E s H) : rs_rc s H RX3 (E.2.2 0) := by
  obtain ⟨⟨cell, h1, h2, h3, -⟩, -⟩ := h
  exact ⟨cell, h1, h2, h3⟩
theorem rs_O.rc {E : rsE} {s : State} {H : Heap} {a ci : Nat} {fs : List Value} (h : rs_O E H a ci fs) (hK : rs_KK E s) {C : String} {T : u_T} {N : Nat} (hc : rsCl[ci]? = some (C, T, N)) : rs_rc s H C a := va_recv hK.1 (va_P1 h) (q := (C, T, N)) hc (q0 := 0) rfl
theorem rs_P.rc {E : rsE} {s : State} {H : Heap} {a n : Nat} {cf : Nat → rsK} (h : rs_P E H a n cf) (hK : rs_KK E s) : rs_rc s H RX4 a := by
  obtain ⟨b, h1, -⟩ := h
  exact h1.rc hK rfl
section RSC
variable {p : Program} {l : Launch} {e : Env} {R : Room} {s : State} {m : MethodId} {args : Array Value} {below : List Frame} {meth : Method} {c : Code} {H : Heap} {locs : List Loc} {cells slots : Nat} {Q : State → Prop} {cc : ByteArray} {pc : Nat} {ls : Array Slot} {rest st0 : List Value} {E : rsE} {A w : Nat → Prop} {own C : String} {idx n nL mL b : Nat} {y : MethodName} {cy : ByteArray} {rt : FieldType} {fr ce sl lo : Nat} {As : List Value} {pre : Heap → Prop}
theorem rs_xof {H1 : Heap} (hz : H.size ≤ H1.size) (hk : ∀ q : Nat, q < H.size → ¬ rs_W0 w H.size q → H1[q]? = H[q]?) : rs_X w H H1 :=
  ⟨hz, fun q hq hw => hk q hq (fun z => by
    rcases z with z | z
    · exact hw z
    · omega)⟩
theorem rs_cVi {post : Int32 → Heap → Prop} (hx : p.tables.exec = Jvm.exec) (hb : c.code = cc) (hml : c.maxLocals = nL) (hown : s.vm.findClass own = some m.cls) (hts : ∀ w ∈ lw_all, w.before args s = true) (hK : rs_KK E s) (hF : rs_F E s H) (hS : va_S A s.heap H locs) (hA : ∀ q, s.heap.size ≤ q → A q) (hsz : ls.size = nL)
    (hM : rs_Ci E l y cy mL rt ⟨fr, ce, sl, lo⟩ w (.ref b :: As) pre post) (hv : rs_vf y C cy mL (some rt) n) (hl : Cond.methodLink own idx y ∈ lw_all) (hR : fr + 1 ≤ R.frames ∧ 8 + (mL + 11) + lo ≤ R.locals) (hwA : ∀ q, q < H.size → w q → A q) (hwn : ∀ q, w q → q < H.size)
    (hr : rs_rc s H C b) (hp : pre H) (hn : As.length = n) (hst : st0 = As.reverse ++ .ref b :: rest) (hro : (rest.map fun v => v.category).sum ≤ 8) (hf : cells + ce ≤ R.cells ∧ slots + sl ≤ R.slots) (hdg : decode cc pc = .ok (.invokevirtual idx, 3))
    (kk : ∀ (r : Int32) (H1 : Heap) (locs1 : List Loc), rs_X w H H1 → post r H1 → va_S A s.heap H1 locs1 → W p l e R s m args below meth c H1 locs1 (cells + ce) (slots + sl) Q (F0 m (pc + 3) ls (.int r :: rest))) : W p l e R s m args below meth c H locs cells slots Q (F0 m pc ls st0) := by
  obtain ⟨hd, h2, h3, h4, h5⟩ := hv
  have hAll : ∀ q, rs_W0 w H.size q → A q := fun q h => by
    rcases h with h | h
    · exact hwA q (hwn q h) h
    · exact hA q (Nat.le_trans hS.1 h)
  refine va_calli (va_runV (As := As) (rest := rest) (b := b) ⟨hx, hb, hml, hown, hts⟩ (hM H.size) (cwV n hts (lw_V hl h2 h3 h4 h5) rfl rfl rfl hd hR) ⟨rs_Pre.blind, hr, rs_Pre.now hK hF hp⟩ rfl hn hsz hst (lv_room hro) hdg hf) hS (fun q _ h => hAll q h) hAll (fun r u t H1 locs1 ht hvm hw1 hB hz1 hk1 hS1 => ?_)
  have hw1 : r = u := hw1
  subst hw1
  subst ht
  exact kk r t.heap locs1 (rs_xof hz1 hk1) hB hS1
theorem rs_cVr {post : State → Nat → Heap → Prop} (hx : p.tables.exec = Jvm.exec) (hb : c.code = cc) (hml : c.maxLocals = nL) (hown : s.vm.findClass own = some m.cls) (hts : ∀ w ∈ lw_all, w.before args s = true) (hK : rs_KK E s) (hF : rs_F E s H) (hS : va_S A s.heap H locs) (hA : ∀ q, s.heap.size ≤ q → A q) (hsz : ls.size = nL)
    (hM : rs_Cr E l y cy mL rt ⟨fr, ce, sl, lo⟩ w (.ref b :: As) pre post) (hv : rs_vf y C cy mL (some rt) n) (hl : Cond.methodLink own idx y ∈ lw_all) (hR : fr + 1 ≤ R.frames ∧ 8 + (mL + 11) + lo ≤ R.locals) (hwA : ∀ q, q < H.size → w q → A q) (hwn : ∀ q, w q → q < H.size)
    (hr : rs_rc s H C b) (hp : pre H) (hn : As.length = n) (hst : st0 = As.reverse ++ .ref b :: rest) (hro : (rest.map fun v => v.category).sum ≤ 8) (hf : cells + ce ≤ R.cells ∧ slots + sl ≤ R.slots) (hdg : decode cc pc = .ok (.invokevirtual idx, 3))
    (kk : ∀ (r : Nat) (t : State) (H1 : Heap) (locs1 : List Loc), rs_X w H H1 → s.vm.Alike t.vm → post t r H1 → va_S A s.heap H1 locs1 → W p l e R s m args below meth c H1 locs1 (cells + ce) (slots + sl) Q (F0 m (pc + 3) ls (.ref r :: rest))) : W p l e R s m args below meth c H locs cells slots Q (F0 m pc ls st0) := by
  obtain ⟨hd, h2, h3, h4, h5⟩ := hv
  have hAll : ∀ q, rs_W0 w H.size q → A q := fun q h => by
    rcases h with h | h
    · exact hwA q (hwn q h) h
    · exact hA q (Nat.le_trans hS.1 h)
  refine va_callr (va_runV (As := As) (rest := rest) (b := b) ⟨hx, hb, hml, hown, hts⟩ (hM H.size) (cwV n hts (lw_V hl h2 h3 h4 h5) rfl rfl rfl hd hR) ⟨rs_Pre.blind, hr, rs_Pre.now hK hF hp⟩ rfl hn hsz hst (lv_room hro) hdg hf) hS (fun q _ h => hAll q h) hAll (fun u r t H1 locs1 ht hvm hw1 hB hz1 hk1 hS1 => ?_)
  subst ht
  exact kk r t t.heap locs1 (rs_xof hz1 hk1) hvm hB hS1
theorem rs_cVv {post : Heap → Prop} (hx : p.tables.exec = Jvm.exec) (hb : c.code = cc) (hml : c.maxLocals = nL) (hown : s.vm.findClass own = some m.cls) (hts : ∀ w ∈ lw_all, w.before args s = true) (hK : rs_KK E s) (hF : rs_F E s H) (hS : va_S A s.heap H locs) (hA : ∀ q, s.heap.size ≤ q → A q) (hsz : ls.size = nL)
    (hM : rs_Cv E l y cy mL ⟨fr, ce, sl, lo⟩ w (.ref b :: As) pre post) (hv : rs_vf y C cy mL none n) (hl : Cond.methodLink own idx y ∈ lw_all) (hR : fr + 1 ≤ R.frames ∧ 8 + (mL + 11) + lo ≤ R.locals) (hwA : ∀ q, q < H.size → w q → A q) (hwn : ∀ q, w q → q < H.size)
    (hr : rs_rc s H C b) (hp : pre H) (hn : As.length = n) (hst : st0 = As.reverse ++ .ref b :: rest) (hro : (rest.map fun v => v.category).sum ≤ 8) (hf : cells + ce ≤ R.cells ∧ slots + sl ≤ R.slots) (hdg : decode cc pc = .ok (.invokevirtual idx, 3))
    (kk : ∀ (H1 : Heap) (locs1 : List Loc), rs_X w H H1 → post H1 → va_S A s.heap H1 locs1 → W p l e R s m args below meth c H1 locs1 (cells + ce) (slots + sl) Q (F0 m (pc + 3) ls rest)) : W p l e R s m args below meth c H locs cells slots Q (F0 m pc ls st0) := by
  obtain ⟨hd, h2, h3, h4, h5⟩ := hv
  have hAll : ∀ q, rs_W0 w H.size q → A q := fun q h => by
    rcases h with h | h
    · exact hwA q (hwn q h) h
    · exact hA q (Nat.le_trans hS.1 h)
  refine va_callv (va_runV (As := As) (rest := rest) (b := b) ⟨hx, hb, hml, hown, hts⟩ (hM H.size) (cwV n hts (lw_V hl h2 h3 h4 h5) rfl rfl rfl hd hR) ⟨rs_Pre.blind, hr, rs_Pre.now hK hF hp⟩ rfl hn hsz hst (lv_room hro) hdg hf) hS (fun q _ h => hAll q h) hAll (fun u t H1 locs1 ht hvm hw1 hB hz1 hk1 hS1 => ?_)
  subst ht
  exact kk t.heap locs1 (rs_xof hz1 hk1) hB hS1
/-- a constructor -/
theorem rs_cI {post : Heap → Prop} (hx : p.tables.exec = Jvm.exec) (hb : c.code = cc) (hml : c.maxLocals = nL) (hown : s.vm.findClass own = some m.cls) (hts : ∀ w ∈ lw_all, w.before args s = true) (hK : rs_KK E s) (hF : rs_F E s H) (hS : va_S A s.heap H locs) (hA : ∀ q, s.heap.size ≤ q → A q) (hsz : ls.size = nL)
    (hM : rs_Cv E l y cy mL ⟨fr, ce, sl, lo⟩ w (.ref b :: As) pre post) (hd : y.cls ≠ "java/lang/invoke/MethodHandle" ∧ y.cls ≠ "java/lang/invoke/VarHandle" ∧ (parseMethodDescriptor y.desc).map (fun d => d.parameters.length) = some n) (hy : y.name = "<init>") (h5 : Cond.code y cy mL none ∈ lw_all) (h4 : Cond.initialized y.cls ∈ lw_all) (h2 : Cond.instanceMethod y ∈ lw_all) (hl : Cond.methodLink own idx y ∈ lw_all) (hR : fr + 1 ≤ R.frames ∧ 8 + (mL + 11) + lo ≤ R.locals) (hwA : ∀ q, q < H.size → w q → A q) (hwn : ∀ q, w q → q < H.size)
    (hp : pre H) (hn : As.length = n) (hst : st0 = As.reverse ++ .ref b :: rest) (hro : (rest.map fun v => v.category).sum ≤ 8) (hf : cells + ce ≤ R.cells ∧ slots + sl ≤ R.slots) (hdg : decode cc pc = .ok (.invokespecial idx, 3))
    (kk : ∀ (H1 : Heap) (locs1 : List Loc), rs_X w H H1 → post H1 → va_S A s.heap H1 locs1 → W p l e R s m args below meth c H1 locs1 (cells + ce) (slots + sl) Q (F0 m (pc + 3) ls rest)) : W p l e R s m args below meth c H locs cells slots Q (F0 m pc ls st0) := by
  have hAll : ∀ q, rs_W0 w H.size q → A q := fun q h => by
    rcases h with h | h
    · exact hwA q (hwn q h) h
    · exact hA q (Nat.le_trans hS.1 h)
  refine va_callv (va_runI (As := As) (rest := rest) (b := b) ⟨hx, hb, hml, hown, hts⟩ (hM H.size) (cwI n hts (lw_meth h5) rfl rfl rfl (hts _ h4) (hts _ hl) (hts _ h2) hy hd hR) ⟨rs_Pre.blind, rs_Pre.now hK hF hp⟩ rfl hn hsz hst (lv_room hro) hdg hf) hS (fun q _ h => hAll q h) hAll (fun u t H1 locs1 ht hvm hw1 hB hz1 hk1 hS1 => ?_)
  subst ht
  exact kk t.heap locs1 (rs_xof hz1 hk1) hB hS1
-- ===== ends =====
theorem rs_reti {post : Int32 → Heap → Prop} {mc ms : Nat} {v : Int32} {rt : FieldType} (hx : p.tables.exec = Jvm.exec) (hb : c.code = cc) (hr : meth.sig.returnType = some rt) (hlk : meth.locks = false) (hS : va_S (rs_W0 w s.heap.size) s.heap H locs) (hn : narrow rt (.int v) = .int v) (hdg : decode cc pc = .ok (.ireturn, 1)) (h1 : cells ≤ mc) (h2 : slots ≤ ms) (hp : post v H) :
    W p l e R s m args below meth c H locs cells slots (MQ below (va_Qi (fun (r u : Int32) => r = u) (fun u t => post u t.heap) (rs_W0 w s.heap.size)) args s mc ms (rs_W0 w s.heap.size)) (F0 m pc ls [.int v]) := by
  refine W.widen h1 h2 ?_
  exact W.zret (v := v) hx hb hr hn (fun t ht _ => ⟨⟨v, v, rfl, rfl, by show post v t.heap; rw [ht]; exact hp⟩, hS.F ht⟩) hS.2.2 hdg hlk
theorem rs_retr {post : State → Nat → Heap → Prop} {mc ms r : Nat} {rt : FieldType} (hx : p.tables.exec = Jvm.exec) (hb : c.code = cc) (hr : meth.sig.returnType = some rt) (hrt : (∃ n, rt = .object n) ∨ ∃ t, rt = .array t) (hlk : meth.locks = false) (hS : va_S (rs_W0 w s.heap.size) s.heap H locs) (hdg : decode cc pc = .ok (.areturn, 1)) (h1 : cells ≤ mc) (h2 : slots ≤ ms) (hp : ∀ t : State, s.vm.Alike t.vm → post t r H) :
    W p l e R s m args below meth c H locs cells slots (MQ below (va_Qr (fun _ : Unit => True) (fun _ r t => post t r t.heap) (rs_W0 w s.heap.size)) args s mc ms (rs_W0 w s.heap.size)) (F0 m pc ls [.ref r]) := by
  refine W.widen h1 h2 ?_
  exact W.aret (v := .ref r) hx hb hr hrt (Or.inr ⟨r, rfl⟩) (fun t ht hW => ⟨⟨(), r, rfl, trivial, by show post t r t.heap; rw [ht]; exact hp t hW.alike⟩, hS.F ht⟩) hS.2.2 hdg hlk
theorem rs_retv {post : Heap → Prop} {mc ms : Nat} (hx : p.tables.exec = Jvm.exec) (hb : c.code = cc) (hr : meth.sig.returnType = none) (hlk : meth.locks = false) (hS : va_S (rs_W0 w s.heap.size) s.heap H locs) (hdg : decode cc pc = .ok (.return_, 1)) (h1 : cells ≤ mc) (h2 : slots ≤ ms) (hp : post H) :
    W p l e R s m args below meth c H locs cells slots (MQ below (va_Qv (fun _ : Unit => True) (fun _ t => post t.heap) (rs_W0 w s.heap.size)) args s mc ms (rs_W0 w s.heap.size)) (F0 m pc ls []) := by
  refine W.widen h1 h2 ?_
  exact W.vret hx hb hr (fun t ht _ => ⟨⟨(), rfl, trivial, by show post t.heap; rw [ht]; exact hp⟩, hS.F ht⟩) hS.2.2 hdg hlk
-- ===== arrays =====
theorem rs_iald (hx : p.tables.exec = Jvm.exec) (hb : c.code = cc) (hK : rs_KK E s) {a i n : Nat} {cf : Nat → rsK} (ha : rs_A E H a n cf) (hi : i < n) (hn : n < 2 ^ 31) (hdg : decode cc pc = .ok (.iaload, 1))
    (kk : W p l e R s m args below meth c H locs cells slots Q (F0 m (pc + 1) ls (.int (kI (cf i)) :: rest))) : W p l e R s m args below meth c H locs cells slots Q (F0 m pc ls (.int (nI i) :: .ref a :: rest)) := by
  obtain ⟨N, g, h1, h2, h3, h4⟩ := ha
  have hc := nI_clamp (Nat.lt_trans hi hn)
  refine W.iald (v := .int (kI (cf i))) hx hb h1 ((hK.1.2 0 _ rfl).1 N g) (fun q => by cases q) ?_ ?_ rfl rfl hdg kk
  · rw [arrV_size, hc]
    intro z
    rcases z with z | z
    · exact nI_pos (Nat.lt_trans hi hn) z
    · omega
  · rw [hc, arrV_read _ _ (by omega), h4 i hi]
theorem rs_iast (hx : p.tables.exec = Jvm.exec) (hb : c.code = cc) (hK : rs_KK E s) {a i n : Nat} {cf : Nat → rsK} (v : rsK) (ha : rs_A E H a n cf) (hS : va_S A s.heap H locs) (hA : A a) (hi : i < n) (hn : n < 2 ^ 31) (hdg : decode cc pc = .ok (.iastore, 1))
    (kk : ∀ (H1 : Heap) (locs1 : List Loc), rs_A E H1 a n (va_up cf i v) → (∀ q : Nat, q ≠ a → H1[q]? = H[q]?) → H1.size = H.size → va_S A s.heap H1 locs1 → W p l e R s m args below meth c H1 locs1 cells slots Q (F0 m (pc + 1) ls rest)) : W p l e R s m args below meth c H locs cells slots Q (F0 m pc ls (.int (kI v) :: .int (nI i) :: .ref a :: rest)) := by
  obtain ⟨N, g, h1, h2, h3, h4⟩ := ha
  have hc := nI_clamp (Nat.lt_trans hi hn)
  refine W.iast hx hb h1 ((hK.1.2 0 _ rfl).1 N g) (fun q => by cases q) ?_ rfl rfl hdg fun H1 e z oq => ?_
  · rw [arrV_size, hc]
    intro z
    rcases z with z | z
    · exact nI_pos (Nat.lt_trans hi hn) z
    · omega
  · refine kk H1 _ ⟨N, updV g i (.int (kI v)), ?_, h2, h3, fun j hj => ?_⟩ oq z (hS.put z oq hA)
    · rw [e, arrV_store, hc]
    · unfold updV va_up
      by_cases hji : j = i
      · rw [if_pos hji, if_pos hji]
      · rw [if_neg hji, if_neg hji]; exact h4 j hj
theorem rs_alen (hx : p.tables.exec = Jvm.exec) (hb : c.code = cc) (hK : rs_KK E s) {a n : Nat} {cf : Nat → rsK} (ha : rs_A E H a n cf) (hdg : decode cc pc = .ok (.arraylength, 1))
    (kk : W p l e R s m args below meth c H locs cells slots Q (F0 m (pc + 1) ls (.int (nI n) :: rest))) : W p l e R s m args below meth c H locs cells slots Q (F0 m pc ls (.ref a :: rest)) := by
  obtain ⟨N, g, h1, h2, h3, h4⟩ := ha
  exact W.alen (n := nI n) hx hb h1 ((hK.1.2 0 _ rfl).1 N g) (by rw [arrV_size]; exact h3) rfl rfl hdg kk
theorem rs_newa (hx : p.tables.exec = Jvm.exec) (hb : c.code = cc) (hK : rs_KK E s) (hts : ∀ w ∈ lw_all, w.before args s = true) (hS : va_S A s.heap H locs) {n : Nat} (hn : n ≤ 1000) (hcells : cells + 1 ≤ R.cells) (hslots : slots + n ≤ R.slots) (hdg : decode cc pc = .ok (.newarray .int, 2))
    (kk : ∀ (q : Nat) (H1 : Heap), q = H.size → s.heap.size ≤ q → rs_A E H1 q n (fun _ => 0) → rs_X rs_no H H1 → H1.size = H.size + 1 → va_S A s.heap H1 locs → W p l e R s m args below meth c H1 locs (cells + 1) (slots + n) Q (F0 m (pc + 2) ls (.ref q :: rest))) : W p l e R s m args below meth c H locs cells slots Q (F0 m pc ls (.int (nI n) :: rest)) := by
  have hlt : n < 2 ^ 31 := Nat.lt_of_le_of_lt hn (by decide)
  refine va_newaK (atype := .int) (N := n) hx hb (hts _ q59) rfl hdg rfl (nI_pos hlt) (nI_clamp hlt) (by show n * 4 ≤ 536870912; omega) hcells hslots rfl fun H1 cA e1 z1 o1 hAr hNm => ?_
  have hcA : cA = E.2.1 := by
    have h1 : s.vm.findClass ("[" ++ (FieldType.int).toString) = some E.2.1 := (hK.1.2 0 _ rfl).2
    exact Option.some.inj (hNm.symm.trans h1)
  subst hcA
  have hX : rs_X rs_no H H1 := ⟨by omega, fun q hq _ => o1 q hq⟩
  refine kk H.size H1 rfl hS.1 (rs_A.of (g := fun _ => .int 0) e1 (fun _ _ => rfl)) hX z1 ⟨Nat.le_trans hS.1 hX.1, fun x h1 h2 => (o1 x (Nat.lt_of_lt_of_le h1 hS.1)).trans (hS.2.1 x h1 h2), hS.2.2⟩
-- ===== fields =====
theorem rs_gf (hx : p.tables.exec = Jvm.exec) (hb : c.code = cc) (hown : s.vm.findClass RX3 = some m.cls) {nm d : String} {v : Value} {a : Nat} {B : Nat → Prop} (h : va_OF "ModulusGF" nm d v a B s H) (hlink : (Cond.fieldLink RX3 idx "ModulusGF" nm d).before args s = true) (hdg : decode cc pc = .ok (.getfield idx, 3))
    (kk : W p l e R s m args below meth c H locs cells slots Q (F0 m (pc + 3) ls (v :: rest))) : W p l e R s m args below meth c H locs cells slots Q (F0 m pc ls (.ref a :: rest)) := by
  obtain ⟨cf, k, fi, f, cell, h1, h2, h3, h4, h5, h6⟩ := h
  exact W.getf hx hb hown hlink h1 h2 h3 h4 (v := v) h5 rfl rfl hdg kk
theorem rs_gp (hx : p.tables.exec = Jvm.exec) (hb : c.code = cc) (hown : s.vm.findClass RX4 = some m.cls) (hts : ∀ w ∈ lw_all, w.before args s = true) (hK : rs_KK E s) {a g d : Nat} (h : rs_O E H a 0 [.ref g, .ref d]) (hdg : decode cc pc = .ok (.getfield 16, 3))
    (kk : W p l e R s m args below meth c H locs cells slots Q (F0 m (pc + 3) ls (.ref d :: rest))) : W p l e R s m args below meth c H locs cells slots Q (F0 m pc ls (.ref a :: rest)) :=
  va_get (ci := 0) (v := .ref d) (C := RX4) (T := TX4) (N := 2) hx hb hts in_X4 hown hK.1 (va_P1 h) 0 rfl rfl 1 (by decide) (hts _ q168) (fun _ h9 => h9) rfl hdg kk
theorem rs_gpf (hx : p.tables.exec = Jvm.exec) (hb : c.code = cc) (hown : s.vm.findClass RX4 = some m.cls) (hts : ∀ w ∈ lw_all, w.before args s = true) (hK : rs_KK E s) {a g : Nat} {v : Value} (h : rs_O E H a 0 [.ref g, v]) (hdg : decode cc pc = .ok (.getfield 10, 3))
    (kk : W p l e R s m args below meth c H locs cells slots Q (F0 m (pc + 3) ls (.ref g :: rest))) : W p l e R s m args below meth c H locs cells slots Q (F0 m pc ls (.ref a :: rest)) :=
  va_get (ci := 0) (v := .ref g) (C := RX4) (T := TX4) (N := 2) hx hb hts in_X4 hown hK.1 (va_P1 h) 0 rfl rfl 0 (by decide) (hts _ q167) (fun _ h9 => h9) rfl hdg kk
theorem rs_ge (hx : p.tables.exec = Jvm.exec) (hb : c.code = cc) (hown : s.vm.findClass RX2 = some m.cls) (hts : ∀ w ∈ lw_all, w.before args s = true) (hK : rs_KK E s) {a g : Nat} (h : rs_O E H a 1 [.ref g]) (hdg : decode cc pc = .ok (.getfield 13, 3))
    (kk : W p l e R s m args below meth c H locs cells slots Q (F0 m (pc + 3) ls (.ref g :: rest))) : W p l e R s m args below meth c H locs cells slots Q (F0 m pc ls (.ref a :: rest)) :=
  va_get (ci := 1) (v := .ref g) (C := RX2) (T := TX2) (N := 1) hx hb hts in_X2 hown hK.1 (va_P1 h) 0 rfl rfl 0 (by decide) (hts _ q33) (fun _ h9 => h9) rfl hdg kk
/-- a new ModulusPoly -/
theorem rs_newp (hx : p.tables.exec = Jvm.exec) (hb : c.code = cc) (hown : s.vm.findClass own = some m.cls) (hts : ∀ w ∈ lw_all, w.before args s = true) (hK : rs_KK E s) (hS : va_S A s.heap H locs) (hA : ∀ q, s.heap.size ≤ q → A q) (hcl : Cond.classLink own idx RX4 ∈ lw_all) (hcells : cells + 1 ≤ R.cells) (hslots : slots + 2 ≤ R.slots) (hdg : decode cc pc = .ok (.new idx, 3))
    (kk : ∀ (q : Nat) (H1 : Heap), q = H.size → s.heap.size ≤ q → rs_O E H1 q 0 [.null, .null] → rs_X rs_no H H1 → H1.size = H.size + 1 → va_S A s.heap H1 locs → W p l e R s m args below meth c H1 locs (cells + 1) (slots + 2) Q (F0 m (pc + 3) ls (.ref q :: rest))) : W p l e R s m args below meth c H locs cells slots Q (F0 m pc ls rest) := by
  have hKn := hK.1.1 0 _ rfl
  refine W.newcK hx hb hown (hts _ hcl) (hts _ q95) (hts _ q8) rfl hdg hcells hslots hKn.2.1 rfl fun H1 kC hkC e1 z1 o1 => ?_
  have hX : rs_X rs_no H H1 := ⟨by omega, fun q hq _ => o1 q hq⟩
  refine kk H.size H1 rfl hS.1 ?_ hX z1 ⟨Nat.le_trans hS.1 hX.1, fun x h1 h2 => (o1 x (Nat.lt_of_lt_of_le h1 hS.1)).trans (hS.2.1 x h1 h2), hS.2.2⟩
  exact ⟨_, rfl, (u_born tyX4 hts in_X4 hKn hkC e1 tyX4_ok).to (fun j hj => by rcases (show j = 0 ∨ j = 1 by omega) with rfl | rfl <;> rfl)⟩
end RSC
end
section
/-! ROWS over natural numbers; how a method's walk begins and ends -/
theorem rs_goI {E : rsE} {l : Launch} {y : MethodName} {cy : ByteArray} {mL fr ce sl lo : Nat} {rt : FieldType} {w : Nat → Prop} {av : List Value} {pre : Heap → Prop} {post : Int32 → Heap → Prop} (hy : plainName y.cls = true) (hlen : (lg_sl av).length ≤ mL)
    (body : ∀ (p : Program) (e : Env) (R : Room) (s : State) (m : MethodId) (args : Array Value) (below : List Frame) (meth : Method) (c : Code) (Q : State → Prop), p.tables.exec = Jvm.exec → c.code = cy → c.maxLocals = mL → s.vm.findClass y.cls = some m.cls → (∀ w ∈ lw_all, w.before args s = true) → meth.name = y.name → rs_KK E s → rs_F E s s.heap → pre s.heap → R.frames = fr → R.cells = ce → R.slots = sl → R.locals = lo → (∀ q, s.heap.size ≤ q → rs_W0 w s.heap.size q) → va_S (rs_W0 w s.heap.size) s.heap s.heap [] →
      (∀ (H : Heap) (locs : List Loc) (cells slots pc : Nat) (ls : Array Slot) (v : Int32), va_S (rs_W0 w s.heap.size) s.heap H locs → decode cy pc = .ok (.ireturn, 1) → narrow rt (.int v) = .int v → cells ≤ ce → slots ≤ sl → post v H → W p l e R s m args below meth c H locs cells slots Q (F0 m pc ls [.int v])) →
      ∀ ls : Array Slot, lv_has ls mL (lv_args 0 av) → W p l e R s m args below meth c s.heap [] 0 0 Q (F0 m 0 ls [])) : rs_Ci E l y cy mL rt ⟨fr, ce, sl, lo⟩ w av pre post := by
  intro sz
  refine rs_start hy hlen (fun p e s m below meth c hx hb hr hlk hml hown hts hnm hsz hK hF hpre ls hl => ?_)
  subst hsz
  exact body p e _ s m _ below meth c _ hx hb hml hown hts hnm hK hF hpre rfl rfl rfl rfl (fun q h => Or.inr h) va_S.rf (fun H locs cells slots pc ls v hS hdg hn h1 h2 hp => rs_reti hx hb hr hlk hS hn hdg h1 h2 hp) ls hl
theorem rs_goR {E : rsE} {l : Launch} {y : MethodName} {cy : ByteArray} {mL fr ce sl lo : Nat} {rt : FieldType} {w : Nat → Prop} {av : List Value} {pre : Heap → Prop} {post : State → Nat → Heap → Prop} (hy : plainName y.cls = true) (hlen : (lg_sl av).length ≤ mL) (hrt : (∃ n, rt = .object n) ∨ ∃ t, rt = .array t)
    (body : ∀ (p : Program) (e : Env) (R : Room) (s : State) (m : MethodId) (args : Array Value) (below : List Frame) (meth : Method) (c : Code) (Q : State → Prop), p.tables.exec = Jvm.exec → c.code = cy → c.maxLocals = mL → s.vm.findClass y.cls = some m.cls → (∀ w ∈ lw_all, w.before args s = true) → meth.name = y.name → rs_KK E s → rs_F E s s.heap → pre s.heap → R.frames = fr → R.cells = ce → R.slots = sl → R.locals = lo → (∀ q, s.heap.size ≤ q → rs_W0 w s.heap.size q) → va_S (rs_W0 w s.heap.size) s.heap s.heap [] →
      (∀ (H : Heap) (locs : List Loc) (cells slots pc : Nat) (ls : Array Slot) (v : Nat), va_S (rs_W0 w s.heap.size) s.heap H locs → decode cy pc = .ok (.areturn, 1) → cells ≤ ce → slots ≤ sl → (∀ t : State, s.vm.Alike t.vm → post t v H) → W p l e R s m args below meth c H locs cells slots Q (F0 m pc ls [.ref v])) →
      ∀ ls : Array Slot, lv_has ls mL (lv_args 0 av) → W p l e R s m args below meth c s.heap [] 0 0 Q (F0 m 0 ls [])) : rs_Cr E l y cy mL rt ⟨fr, ce, sl, lo⟩ w av pre post := by
  intro sz
  refine rs_start hy hlen (fun p e s m below meth c hx hb hr hlk hml hown hts hnm hsz hK hF hpre ls hl => ?_)
  subst hsz
  exact body p e _ s m _ below meth c _ hx hb hml hown hts hnm hK hF hpre rfl rfl rfl rfl (fun q h => Or.inr h) va_S.rf (fun H locs cells slots pc ls v hS hdg h1 h2 hp => rs_retr hx hb hr hrt hlk hS hdg h1 h2 hp) ls hl
theorem rs_goV {E : rsE} {l : Launch} {y : MethodName} {cy : ByteArray} {mL fr ce sl lo : Nat} {w : Nat → Prop} {av : List Value} {pre : Heap → Prop} {post : Heap → Prop} (hy : plainName y.cls = true) (hlen : (lg_sl av).length ≤ mL)
    (body : ∀ (p : Program) (e : Env) (R : Room) (s : State) (m : MethodId) (args : Array Value) (below : List Frame) (meth : Method) (c : Code) (Q : State → Prop), p.tables.exec = Jvm.exec → c.code = cy → c.maxLocals = mL → s.vm.findClass y.cls = some m.cls → (∀ w ∈ lw_all, w.before args s = true) → meth.name = y.name → rs_KK E s → rs_F E s s.heap → pre s.heap → R.frames = fr → R.cells = ce → R.slots = sl → R.locals = lo → (∀ q, s.heap.size ≤ q → rs_W0 w s.heap.size q) → va_S (rs_W0 w s.heap.size) s.heap s.heap [] →
      (∀ (H : Heap) (locs : List Loc) (cells slots pc : Nat) (ls : Array Slot), va_S (rs_W0 w s.heap.size) s.heap H locs → decode cy pc = .ok (.return_, 1) → cells ≤ ce → slots ≤ sl → post H → W p l e R s m args below meth c H locs cells slots Q (F0 m pc ls [])) →
      ∀ ls : Array Slot, lv_has ls mL (lv_args 0 av) → W p l e R s m args below meth c s.heap [] 0 0 Q (F0 m 0 ls [])) : rs_Cv E l y cy mL ⟨fr, ce, sl, lo⟩ w av pre post := by
  intro sz
  refine rs_start hy hlen (fun p e s m below meth c hx hb hr hlk hml hown hts hnm hsz hK hF hpre ls hl => ?_)
  subst hsz
  exact body p e _ s m _ below meth c _ hx hb hml hown hts hnm hK hF hpre rfl rfl rfl rfl (fun q h => Or.inr h) va_S.rf (fun H locs cells slots pc ls hS hdg h1 h2 hp => rs_retv hx hb hr hlk hS hdg h1 h2 hp) ls hl
section RSN
variable {p : Program} {l : Launch} {e : Env} {R : Room} {s : State} {m : MethodId} {args : Array Value} {below : List Frame} {meth : Method} {c : Code} {H : Heap} {locs : List Loc} {cells slots : Nat} {Q : State → Prop} {cc : ByteArray} {pc : Nat} {ls : Array Slot} {rest : List Value}
theorem rs_iadd (hx : p.tables.exec = Jvm.exec) (hb : c.code = cc) {a b : Nat} (hdg : decode cc pc = .ok (.iadd, 1))
    (k : W p l e R s m args below meth c H locs cells slots Q (F0 m (pc + 1) ls (.int (nI (a + b)) :: rest))) : W p l e R s m args below meth c H locs cells slots Q (F0 m pc ls (.int (nI b) :: .int (nI a) :: rest)) :=
  lv_iadd hx hb hdg (by rw [nI_add]; exact k)
theorem rs_isub (hx : p.tables.exec = Jvm.exec) (hb : c.code = cc) {a b : Nat} (hdg : decode cc pc = .ok (.isub, 1)) (h : b ≤ a)
    (k : W p l e R s m args below meth c H locs cells slots Q (F0 m (pc + 1) ls (.int (nI (a - b)) :: rest))) : W p l e R s m args below meth c H locs cells slots Q (F0 m pc ls (.int (nI b) :: .int (nI a) :: rest)) :=
  lv_isub hx hb hdg (by rw [pk_sub h]; exact k)
theorem rs_imul (hx : p.tables.exec = Jvm.exec) (hb : c.code = cc) {a b : Nat} (hdg : decode cc pc = .ok (.imul, 1))
    (k : W p l e R s m args below meth c H locs cells slots Q (F0 m (pc + 1) ls (.int (nI (a * b)) :: rest))) : W p l e R s m args below meth c H locs cells slots Q (F0 m pc ls (.int (nI b) :: .int (nI a) :: rest)) :=
  lv_imul hx hb hdg (by rw [pk_mul]; exact k)
theorem rs_irem (hx : p.tables.exec = Jvm.exec) (hb : c.code = cc) {a b : Nat} (hdg : decode cc pc = .ok (.irem, 1)) (h0 : 0 < b) (ha : a < 2 ^ 31) (hb2 : b < 2 ^ 31)
    (k : W p l e R s m args below meth c H locs cells slots Q (F0 m (pc + 1) ls (.int (nI (a % b)) :: rest))) : W p l e R s m args below meth c H locs cells slots Q (F0 m pc ls (.int (nI b) :: .int (nI a) :: rest)) :=
  lv_irem hx hb hdg (nI_ne0 h0 hb2) (by rw [pk_rem ha h0 hb2]; exact k)
theorem rs_idiv (hx : p.tables.exec = Jvm.exec) (hb : c.code = cc) {a b : Nat} (hdg : decode cc pc = .ok (.idiv, 1)) (h0 : 0 < b) (ha : a < 2 ^ 31) (hb2 : b < 2 ^ 31)
    (k : W p l e R s m args below meth c H locs cells slots Q (F0 m (pc + 1) ls (.int (nI (a / b)) :: rest))) : W p l e R s m args below meth c H locs cells slots Q (F0 m pc ls (.int (nI b) :: .int (nI a) :: rest)) :=
  lv_idiv hx hb hdg (nI_ne0 h0 hb2) (by rw [pk_div ha h0 hb2]; exact k)
/-- the number on top under another name -/
theorem rs_top {a b : Nat} (h : a = b) (k : W p l e R s m args below meth c H locs cells slots Q (F0 m pc ls (.int (nI b) :: rest))) : W p l e R s m args below meth c H locs cells slots Q (F0 m pc ls (.int (nI a) :: rest)) := by
  subst h; exact k
theorem rs_cge (hx : p.tables.exec = Jvm.exec) (hb : c.code = cc) {a b : Nat} {off : Int} {tgt : Nat} (hdg : decode cc pc = .ok (.if_icmp .ge off, 3)) (ht : (pc : Int) + off = (tgt : Int)) (ha : a < 2 ^ 31) (hb2 : b < 2 ^ 31)
    (kt : b ≤ a → W p l e R s m args below meth c H locs cells slots Q (F0 m tgt ls rest)) (kf : a < b → W p l e R s m args below meth c H locs cells slots Q (F0 m (pc + 3) ls rest)) : W p l e R s m args below meth c H locs cells slots Q (F0 m pc ls (.int (nI b) :: .int (nI a) :: rest)) :=
  lv_icmp_ge hx hb hdg ht (fun h => kt ((nI_leI hb2 ha).mp h)) (fun h => kf (Nat.not_le.mp (fun q => h ((nI_leI hb2 ha).mpr q))))
theorem rs_cle (hx : p.tables.exec = Jvm.exec) (hb : c.code = cc) {a b : Nat} {off : Int} {tgt : Nat} (hdg : decode cc pc = .ok (.if_icmp .le off, 3)) (ht : (pc : Int) + off = (tgt : Int)) (ha : a < 2 ^ 31) (hb2 : b < 2 ^ 31)
    (kt : a ≤ b → W p l e R s m args below meth c H locs cells slots Q (F0 m tgt ls rest)) (kf : b < a → W p l e R s m args below meth c H locs cells slots Q (F0 m (pc + 3) ls rest)) : W p l e R s m args below meth c H locs cells slots Q (F0 m pc ls (.int (nI b) :: .int (nI a) :: rest)) :=
  lv_icmp_le hx hb hdg ht (fun h => kt ((nI_leI ha hb2).mp h)) (fun h => kf (Nat.not_le.mp (fun q => h ((nI_leI ha hb2).mpr q))))
theorem rs_clt (hx : p.tables.exec = Jvm.exec) (hb : c.code = cc) {a b : Nat} {off : Int} {tgt : Nat} (hdg : decode cc pc = .ok (.if_icmp .lt off, 3)) (ht : (pc : Int) + off = (tgt : Int)) (ha : a < 2 ^ 31) (hb2 : b < 2 ^ 31)
    (kt : a < b → W p l e R s m args below meth c H locs cells slots Q (F0 m tgt ls rest)) (kf : b ≤ a → W p l e R s m args below meth c H locs cells slots Q (F0 m (pc + 3) ls rest)) : W p l e R s m args below meth c H locs cells slots Q (F0 m pc ls (.int (nI b) :: .int (nI a) :: rest)) :=
  lv_icmp_lt hx hb hdg ht (fun h => kt ((nI_ltI ha hb2).mp h)) (fun h => kf (Nat.not_lt.mp (fun q => h ((nI_ltI ha hb2).mpr q))))
theorem rs_cgt (hx : p.tables.exec = Jvm.exec) (hb : c.code = cc) {a b : Nat} {off : Int} {tgt : Nat} (hdg : decode cc pc = .ok (.if_icmp .gt off, 3)) (ht : (pc : Int) + off = (tgt : Int)) (ha : a < 2 ^ 31) (hb2 : b < 2 ^ 31)
    (kt : b < a → W p l e R s m args below meth c H locs cells slots Q (F0 m tgt ls rest)) (kf : a ≤ b → W p l e R s m args below meth c H locs cells slots Q (F0 m (pc + 3) ls rest)) : W p l e R s m args below meth c H locs cells slots Q (F0 m pc ls (.int (nI b) :: .int (nI a) :: rest)) :=
  lv_icmp_gt hx hb hdg ht (fun h => kt ((nI_ltI hb2 ha).mp h)) (fun h => kf (Nat.not_lt.mp (fun q => h ((nI_ltI hb2 ha).mpr q))))
theorem rs_ceq (hx : p.tables.exec = Jvm.exec) (hb : c.code = cc) {a b : Nat} {off : Int} {tgt : Nat} (hdg : decode cc pc = .ok (.if_icmp .eq off, 3)) (ht : (pc : Int) + off = (tgt : Int)) (ha : a < 2 ^ 31) (hb2 : b < 2 ^ 31)
    (kt : a = b → W p l e R s m args below meth c H locs cells slots Q (F0 m tgt ls rest)) (kf : a ≠ b → W p l e R s m args below meth c H locs cells slots Q (F0 m (pc + 3) ls rest)) : W p l e R s m args below meth c H locs cells slots Q (F0 m pc ls (.int (nI b) :: .int (nI a) :: rest)) :=
  lv_icmp_eq hx hb hdg ht (fun h => kt ((nI_eq ha hb2).mp h)) (fun h => kf (fun q => h ((nI_eq ha hb2).mpr q)))
theorem rs_cne (hx : p.tables.exec = Jvm.exec) (hb : c.code = cc) {a b : Nat} {off : Int} {tgt : Nat} (hdg : decode cc pc = .ok (.if_icmp .ne off, 3)) (ht : (pc : Int) + off = (tgt : Int)) (ha : a < 2 ^ 31) (hb2 : b < 2 ^ 31)
    (kt : a ≠ b → W p l e R s m args below meth c H locs cells slots Q (F0 m tgt ls rest)) (kf : a = b → W p l e R s m args below meth c H locs cells slots Q (F0 m (pc + 3) ls rest)) : W p l e R s m args below meth c H locs cells slots Q (F0 m pc ls (.int (nI b) :: .int (nI a) :: rest)) :=
  lv_icmp_ne hx hb hdg ht (fun h => kt (fun q => h ((nI_eq ha hb2).mpr q))) (fun h => kf ((nI_eq ha hb2).mp h))
theorem nI_z {a : Nat} (ha : a < 2 ^ 31) : nI a = 0 ↔ a = 0 := by
  rw [← nI_0]; exact nI_eq ha (by decide)
theorem rs_ifeq (hx : p.tables.exec = Jvm.exec) (hb : c.code = cc) {a : Nat} {off : Int} {tgt : Nat} (hdg : decode cc pc = .ok (.ifCond .eq off, 3)) (ht : (pc : Int) + off = (tgt : Int)) (ha : a < 2 ^ 31)
    (kt : a = 0 → W p l e R s m args below meth c H locs cells slots Q (F0 m tgt ls rest)) (kf : a ≠ 0 → W p l e R s m args below meth c H locs cells slots Q (F0 m (pc + 3) ls rest)) : W p l e R s m args below meth c H locs cells slots Q (F0 m pc ls (.int (nI a) :: rest)) :=
  lv_if_eq hx hb hdg ht (fun h => kt ((nI_z ha).mp h)) (fun h => kf (fun q => h ((nI_z ha).mpr q)))
theorem rs_ifne (hx : p.tables.exec = Jvm.exec) (hb : c.code = cc) {a : Nat} {off : Int} {tgt : Nat} (hdg : decode cc pc = .ok (.ifCond .ne off, 3)) (ht : (pc : Int) + off = (tgt : Int)) (ha : a < 2 ^ 31)
    (kt : a ≠ 0 → W p l e R s m args below meth c H locs cells slots Q (F0 m tgt ls rest)) (kf : a = 0 → W p l e R s m args below meth c H locs cells slots Q (F0 m (pc + 3) ls rest)) : W p l e R s m args below meth c H locs cells slots Q (F0 m pc ls (.int (nI a) :: rest)) :=
  lv_if_ne hx hb hdg ht (fun h => kt (fun q => h ((nI_z ha).mpr q))) (fun h => kf ((nI_z ha).mp h))
theorem rs_ifge (hx : p.tables.exec = Jvm.exec) (hb : c.code = cc) {a : Nat} {off : Int} {tgt : Nat} (hdg : decode cc pc = .ok (.ifCond .ge off, 3)) (ht : (pc : Int) + off = (tgt : Int)) (ha : a < 2 ^ 31)
    (kt : W p l e R s m args below meth c H locs cells slots Q (F0 m tgt ls rest)) : W p l e R s m args below meth c H locs cells slots Q (F0 m pc ls (.int (nI a) :: rest)) :=
  lv_if_ge hx hb hdg ht (fun _ => kt) (fun h => absurd (nI_pos' ha) h)
theorem rs_ifle (hx : p.tables.exec = Jvm.exec) (hb : c.code = cc) {a : Nat} {off : Int} {tgt : Nat} (hdg : decode cc pc = .ok (.ifCond .le off, 3)) (ht : (pc : Int) + off = (tgt : Int)) (ha : a < 2 ^ 31)
    (kt : a = 0 → W p l e R s m args below meth c H locs cells slots Q (F0 m tgt ls rest)) (kf : 0 < a → W p l e R s m args below meth c H locs cells slots Q (F0 m (pc + 3) ls rest)) : W p l e R s m args below meth c H locs cells slots Q (F0 m pc ls (.int (nI a) :: rest)) :=
  lv_if_le hx hb hdg ht (fun h => kt (by
    have h1 : nI a ≤ nI 0 := by rw [nI_0]; exact h
    have := (nI_leI ha (by decide)).mp h1
    omega)) (fun h => kf (by
    apply Classical.byContradiction
    intro q
    have h1 : a = 0 := by omega
    rw [h1, nI_0] at h
    exact h (by decide)))
end RSN
theorem kI_add (a b : rsK) : nI ((a.val + b.val) % 929) = kI (a + b) := rfl
theorem kI_sub (a b : rsK) : nI ((929 + a.val - b.val) % 929) = kI (a - b) := by
  show nI _ = nI (a - b).val
  congr 1
  rw [Fin.sub_def]
  show (929 + a.val - b.val) % 929 = (929 - b.val + a.val) % 929
  congr 1
  have := b.isLt
  omega
theorem rs_lt (a : rsK) : a.val < 2 ^ 31 := Nat.lt_trans a.isLt (by decide)
theorem rs_val_0 {a : rsK} : a.val = 0 ↔ a = 0 := ⟨fun h => Fin.ext h, fun h => by rw [h]; rfl⟩
end
section
/-! what the calls of this program ask of the tables -/
theorem vf_X1_clear : rs_vf yX1_clear RX1 cX1_clear 2 none 1 := ⟨⟨rfl, by decide, by decide, by decide +kernel⟩, q66, q67, q5, q68⟩
theorem vf_X1_encode : rs_vf yX1_encode RX1 cX1_encode 8 (some .boolean) 0 := ⟨⟨rfl, by decide, by decide, by decide +kernel⟩, q74, q75, q5, q76⟩
theorem vf_X1_got : rs_vf yX1_got RX1 cX1_got 2 (some .int) 1 := ⟨⟨rfl, by decide, by decide, by decide +kernel⟩, q82, q83, q5, q84⟩
theorem vf_X1_harm : rs_vf yX1_harm RX1 cX1_harm 3 (some .boolean) 2 := ⟨⟨rfl, by decide, by decide, by decide +kernel⟩, q78, q79, q5, q80⟩
theorem vf_X1_put : rs_vf yX1_put RX1 cX1_put 2 (some .boolean) 1 := ⟨⟨rfl, by decide, by decide, by decide +kernel⟩, q61, q62, q5, q63⟩
theorem vf_X1_size : rs_vf yX1_size RX1 cX1_size 1 (some .int) 0 := ⟨⟨rfl, by decide, by decide, by decide +kernel⟩, q70, q71, q5, q72⟩
theorem vf_X2_decode : rs_vf yX2_decode RX2 cX2_decode 16 (some .int) 3 := ⟨⟨rfl, by decide, by decide, by decide +kernel⟩, q91, q92, q6, q93⟩
theorem vf_X2_findErrorLocations : rs_vf yX2_findErrorLocations RX2 cX2_findErrorLocations 6 (some (.array .int)) 1 := ⟨⟨rfl, by decide, by decide, by decide +kernel⟩, q300, qs2, q6, q301⟩
theorem vf_X2_findErrorMagnitudes : rs_vf yX2_findErrorMagnitudes RX2 cX2_findErrorMagnitudes 13 (some (.array .int)) 3 := ⟨⟨rfl, by decide, by decide, by decide +kernel⟩, q308, qs3, q6, q309⟩
theorem vf_X2_runEuclideanAlgorithm : rs_vf yX2_runEuclideanAlgorithm RX2 cX2_runEuclideanAlgorithm 15 (some (.array (.object "ModulusPoly"))) 3 := ⟨⟨rfl, by decide, by decide, by decide +kernel⟩, q239, qs1, q6, q240⟩
theorem vf_X3_add : rs_vf yX3_add RX3 cX3_add 3 (some .int) 2 := ⟨⟨rfl, by decide, by decide, by decide +kernel⟩, q187, q188, q7, q189⟩
theorem vf_X3_buildMonomial : rs_vf yX3_buildMonomial RX3 cX3_buildMonomial 4 (some (.object "ModulusPoly")) 2 := ⟨⟨rfl, by decide, by decide, by decide +kernel⟩, q230, q231, q7, q232⟩
theorem vf_X3_exp : rs_vf yX3_exp RX3 cX3_exp 2 (some .int) 1 := ⟨⟨rfl, by decide, by decide, by decide +kernel⟩, q175, q176, q7, q177⟩
theorem vf_X3_getOne : rs_vf yX3_getOne RX3 cX3_getOne 1 (some (.object "ModulusPoly")) 0 := ⟨⟨rfl, by decide, by decide, by decide +kernel⟩, q195, q196, q7, q197⟩
theorem vf_X3_getSize : rs_vf yX3_getSize RX3 cX3_getSize 1 (some .int) 0 := ⟨⟨rfl, by decide, by decide, by decide +kernel⟩, q303, q304, q7, q305⟩
theorem vf_X3_getZero : rs_vf yX3_getZero RX3 cX3_getZero 1 (some (.object "ModulusPoly")) 0 := ⟨⟨rfl, by decide, by decide, by decide +kernel⟩, q224, q225, q7, q226⟩
theorem vf_X3_inverse : rs_vf yX3_inverse RX3 cX3_inverse 2 (some .int) 1 := ⟨⟨rfl, by decide, by decide, by decide +kernel⟩, q254, q255, q7, q256⟩
theorem vf_X3_log : rs_vf yX3_log RX3 cX3_log 2 (some .int) 1 := ⟨⟨rfl, by decide, by decide, by decide +kernel⟩, q311, q312, q7, q313⟩
theorem vf_X3_multiply : rs_vf yX3_multiply RX3 cX3_multiply 3 (some .int) 2 := ⟨⟨rfl, by decide, by decide, by decide +kernel⟩, q191, q192, q7, q193⟩
theorem vf_X3_subtract : rs_vf yX3_subtract RX3 cX3_subtract 3 (some .int) 2 := ⟨⟨rfl, by decide, by decide, by decide +kernel⟩, q199, q200, q7, q201⟩
theorem vf_X4_add : rs_vf yX4_add RX4 cX4_add 7 (some (.object "ModulusPoly")) 1 := ⟨⟨rfl, by decide, by decide, by decide +kernel⟩, q275, q276, q8, q277⟩
theorem vf_X4_evaluateAt : rs_vf yX4_evaluateAt RX4 cX4_evaluateAt 7 (some .int) 1 := ⟨⟨rfl, by decide, by decide, by decide +kernel⟩, q179, q180, q8, q181⟩
theorem vf_X4_getCoefficient : rs_vf yX4_getCoefficient RX4 cX4_getCoefficient 2 (some .int) 1 := ⟨⟨rfl, by decide, by decide, by decide +kernel⟩, q183, q184, q8, q185⟩
theorem vf_X4_getDegree : rs_vf yX4_getDegree RX4 cX4_getDegree 1 (some .int) 0 := ⟨⟨rfl, by decide, by decide, by decide +kernel⟩, q242, q243, q8, q244⟩
theorem vf_X4_isZero : rs_vf yX4_isZero RX4 cX4_isZero 1 (some .boolean) 0 := ⟨⟨rfl, by decide, by decide, by decide +kernel⟩, q220, q221, q8, q222⟩
theorem vf_X4_multiply : rs_vf yX4_multiply RX4 cX4_multiply 10 (some (.object "ModulusPoly")) 1 := ⟨⟨rfl, by decide, by decide, by decide +kernel⟩, q203, q204, q8, q205⟩
theorem vf_X4_multiplyByMonomial : rs_vf yX4_multiplyByMonomial RX4 cX4_multiplyByMonomial 6 (some (.object "ModulusPoly")) 2 := ⟨⟨rfl, by decide, by decide, by decide +kernel⟩, q279, q280, q8, q281⟩
theorem vf_X4_multiply_2 : rs_vf yX4_multiply_2 RX4 cX4_multiply_2 5 (some (.object "ModulusPoly")) 1 := ⟨⟨rfl, by decide, by decide, by decide +kernel⟩, q294, q295, q8, q296⟩
theorem vf_X4_negative : rs_vf yX4_negative RX4 cX4_negative 4 (some (.object "ModulusPoly")) 0 := ⟨⟨rfl, by decide, by decide, by decide +kernel⟩, q287, q288, q8, q289⟩
theorem vf_X4_subtract : rs_vf yX4_subtract RX4 cX4_subtract 2 (some (.object "ModulusPoly")) 1 := ⟨⟨rfl, by decide, by decide, by decide +kernel⟩, q283, q284, q8, q285⟩
end
section
/-! more rows: stores into fields, copies of arrays; normal forms -/
def rs_N (n : Nat) (cf : Nat → rsK) : Prop := 1 ≤ n ∧ (1 < n → cf 0 ≠ 0)
section RSC2
variable {p : Program} {l : Launch} {e : Env} {R : Room} {s : State} {m : MethodId} {args : Array Value} {below : List Frame} {meth : Method} {c : Code} {H : Heap} {locs : List Loc} {cells slots : Nat} {Q : State → Prop} {cc : ByteArray} {pc : Nat} {ls : Array Slot} {rest : List Value} {E : rsE} {A : Nat → Prop}
theorem rs_putF (hexec : p.tables.exec = Jvm.exec) (hb : c.code = cc) {own ref C : String} {T : u_T} {N ci index a : Nat} (hts : ∀ w ∈ lw_all, w.before args s = true) (hin : ∀ w ∈ u_ws C T N, w ∈ lw_all) (ty0 : Nat → FieldType) (hty : ∀ k, k < N → parseFieldDescriptor (T k).2.2.1 = some (ty0 k)) (hnm : ∀ a, a < N → ∀ b, b < N → a ≠ b → (T a).2.1 ≠ (T b).2.1) (hown : s.vm.findClass own = some m.cls) (hK : rs_KK E s) (hS0 : va_S A s.heap H locs) (hA : A a) {fs : List Value} (he : rs_O E H a ci fs) (hc : rsCl[ci]? = some (C, T, N)) (k : Nat) (hk : k < N) (hlink : (Cond.fieldLink own index ref (T k).2.1 (T k).2.2.1).before args s = true) (hsame : ∀ x, s.fieldFound? (T k).1 (T k).2.1 (T k).2.2.1 = some x → s.fieldFound? ref (T k).2.1 (T k).2.2.1 = some x) (hfin : (T k).2.2.2 = true) (hin2 : meth.name = "<init>") (hdecl : (T k).1 = own) {ty : FieldType} {v : Value} (hd : parseFieldDescriptor (T k).2.2.1 = some ty) (hn : narrow ty v = v) (hfit : fits ty v = true) (hl : k < fs.length)
    (hdg : decode cc pc = .ok (.putfield index, 3)) (kk : ∀ (H1 : Heap) (locs1 : List Loc), rs_O E H1 a ci (fs.set k v) → (∀ q : Nat, q ≠ a → H1[q]? = H[q]?) → H1.size = H.size → va_S A s.heap H1 locs1 → W p l e R s m args below meth c H1 locs1 cells slots Q (F0 m (pc + 3) ls rest)) : W p l e R s m args below meth c H locs cells slots Q (F0 m pc ls (v :: .ref a :: rest)) := by
  have hap := va_apart (own := own) hts hin ty0 hty hnm hK.1 hc
  obtain ⟨r, h1, cell, q1, q2, q3, q4⟩ := he
  have hr : r = (C, T, N) := Option.some.inj (h1.symm.trans hc)
  subst hr
  obtain ⟨hSl, hfc, kC, hkC, hkind⟩ := hK.1.1 ci _ hc
  obtain ⟨cf, kf, fi, f, hi, hsl⟩ := hSl k hk
  have hlay := hts _ (hin _ (u_in_lay hk))
  unfold u_lay at hlay
  rw [if_pos hfin] at hlay
  have hst := (u_facts hfc hkC (u_lays hts hin hk) hi).1
  have hcf : m.cls = cf := by
    obtain ⟨_, _, c', _, _, _, -, -, hf', -, -, -, hown2, -⟩ := Cond.laysFinal_spec hlay
    have e1 : c' = cf := by have := hi.symm.trans hf'; simp at this; exact this.1.symm
    rw [hdecl] at hown2
    rw [← e1]; exact Option.some.inj (hown.symm.trans hown2)
  have h6 := u_fits hfc hkC hkind (Or.inr hlay) hi hd hn hfit
  refine W.putFinK hexec hb hown hlink (hsame _ hi) hst hcf hin2 (by rw [q2]; exact h6) q1 q3 (by rw [hsl]; exact k2_hasslot (q4 k hk)) rfl rfl hdg fun H' e1 e2 e3 => ?_
  rw [hsl] at e1 ⊢
  exact kk H' _ ⟨_, hc, t_OB.to (V := updV (vp_V fs) k v) ⟨_, e1, q2, q3, t_set q4 hap hk v⟩ (fun j _ => vp_updV_set hl v j)⟩ e3 e2 (hS0.put e2 e3 hA)
theorem rs_put (hexec : p.tables.exec = Jvm.exec) (hb : c.code = cc) {own ref C : String} {T : u_T} {N ci index a : Nat} (hts : ∀ w ∈ lw_all, w.before args s = true) (hin : ∀ w ∈ u_ws C T N, w ∈ lw_all) (ty0 : Nat → FieldType) (hty : ∀ k, k < N → parseFieldDescriptor (T k).2.2.1 = some (ty0 k)) (hnm : ∀ a, a < N → ∀ b, b < N → a ≠ b → (T a).2.1 ≠ (T b).2.1) (hown : s.vm.findClass own = some m.cls) (hK : rs_KK E s) (hS0 : va_S A s.heap H locs) (hA : A a) {fs : List Value} (he : rs_O E H a ci fs) (hc : rsCl[ci]? = some (C, T, N)) (k : Nat) (hk : k < N) (hlink : (Cond.fieldLink own index ref (T k).2.1 (T k).2.2.1).before args s = true) (hsame : ∀ x, s.fieldFound? (T k).1 (T k).2.1 (T k).2.2.1 = some x → s.fieldFound? ref (T k).2.1 (T k).2.2.1 = some x) (hfin : (T k).2.2.2 = false) {ty : FieldType} {v : Value} (hd : parseFieldDescriptor (T k).2.2.1 = some ty) (hn : narrow ty v = v) (hfit : fits ty v = true) (hl : k < fs.length)
    (hdg : decode cc pc = .ok (.putfield index, 3)) (kk : ∀ (H1 : Heap) (locs1 : List Loc), rs_O E H1 a ci (fs.set k v) → (∀ q : Nat, q ≠ a → H1[q]? = H[q]?) → H1.size = H.size → va_S A s.heap H1 locs1 → W p l e R s m args below meth c H1 locs1 cells slots Q (F0 m (pc + 3) ls rest)) : W p l e R s m args below meth c H locs cells slots Q (F0 m pc ls (v :: .ref a :: rest)) := by
  have hap := va_apart (own := own) hts hin ty0 hty hnm hK.1 hc
  obtain ⟨r, h1, cell, q1, q2, q3, q4⟩ := he
  have hr : r = (C, T, N) := Option.some.inj (h1.symm.trans hc)
  subst hr
  obtain ⟨hSl, hfc, kC, hkC, hkind⟩ := hK.1.1 ci _ hc
  obtain ⟨cf, kf, fi, f, hi, hsl⟩ := hSl k hk
  have hlay := hts _ (hin _ (u_in_lay hk))
  unfold u_lay at hlay
  rw [if_neg (by rw [hfin]; decide)] at hlay
  have hst := (u_facts hfc hkC (u_lays hts hin hk) hi).1
  have h6 := u_store hfc hkC hkind hlay hi hd hn hfit
  refine W.putK hexec hb (f := f) ⟨hown, hlink, ⟨_, _, _, hsame _ hi⟩, hst⟩ (by rw [q2]; exact h6) q1 q3 (by rw [hsl]; exact k2_hasslot (q4 k hk)) rfl rfl hdg fun H' e1 e2 e3 => ?_
  rw [hsl] at e1 ⊢
  exact kk H' _ ⟨_, hc, t_OB.to (V := updV (vp_V fs) k v) ⟨_, e1, q2, q3, t_set q4 hap hk v⟩ (fun j _ => vp_updV_set hl v j)⟩ e3 e2 (hS0.put e2 e3 hA)
theorem rs_copy (hexec : p.tables.exec = Jvm.exec) (hb : c.code = cc) (hml : c.maxLocals = ls.size) {own : String} {index : Nat} (hown : s.vm.findClass own = some m.cls) (hts : ∀ w ∈ lw_all, w.before args s = true) (hlink : Cond.methodLink own index arraycopyName ∈ lw_all) (hK : rs_KK E s) (hS : va_S A s.heap H locs) {a a0 n0 n1 sp dp k : Nat} {cf df : Nat → rsK} (hA : A a) (ha0 : rs_A E H a0 n0 cf) (ha1 : rs_A E H a n1 df) (h4 : sp + k ≤ n0) (h5 : dp + k ≤ n1) (hn0 : n0 < 2 ^ 31) (hn1 : n1 < 2 ^ 31)
    (hframes : 1 ≤ R.frames) (hlocals : (rest.map fun v => v.category).sum + 18 ≤ R.locals) (hdg : decode cc pc = .ok (.invokestatic index, 3))
    (kk : ∀ (H1 : Heap) (locs1 : List Loc), rs_A E H1 a n1 (va_cpy cf df sp dp k) → (∀ q : Nat, q ≠ a → H1[q]? = H[q]?) → H1.size = H.size → va_S A s.heap H1 locs1 → W p l e R s m args below meth c H1 locs1 cells slots Q (F0 m (pc + 3) ls rest)) : W p l e R s m args below meth c H locs cells slots Q (F0 m pc ls (.int (nI k) :: .int (nI dp) :: .ref a :: .int (nI sp) :: .ref a0 :: rest)) := by
  have lk : k < 2 ^ 31 := by omega
  have ls' : sp < 2 ^ 31 := by omega
  have ld : dp < 2 ^ 31 := by omega
  obtain ⟨N0, g0, f1, f2, f3, f4⟩ := ha0
  obtain ⟨N1, g1, d1, d2, d3, d4⟩ := ha1
  intro T hT X
  obtain ⟨-, k0, hk0, cm0, hkk0⟩ := (hK.1.2 0 _ rfl).1 N0 g0
  obtain ⟨vm', X', step⟩ := X.arraycopy hexec hown (hts _ hlink) (hts _ q166) (hts _ q165) (hts _ q13) (src := a0) (dst := a) (cs := arrV E.2.1 N0 g0) (cd := arrV E.2.1 N1 g1) (srcPos := nI sp) (destPos := nI dp) (n := nI k) (by rw [hT]; exact f1) (by rw [hT]; exact d1)
    (fun _ h => by cases h) (fun _ h => by cases h) (fun h => by cases h) (fun h => by cases h) hk0 hk0 hkk0 hkk0 (by simp [refKind]) (nI_pos ls') (nI_pos ld) (nI_pos lk)
    (by rw [nI_toInt ls', nI_toInt lk, arrV_size]; omega)
    (by rw [nI_toInt ld, nI_toInt lk, arrV_size]; omega)
    (fun vm₁ _ i hi => by
      rw [nI_clamp lk] at hi
      rw [nI_clamp ls']
      have e : (arrV E.2.1 N0 g0).slots.getD (sp + i) .null = .int (kI (cf (sp + i))) := by
        rw [Array.getD_eq_getD_getElem?, arrV_read _ _ (by omega), f4 _ (by omega)]
        rfl
      refine ⟨?_, ?_⟩
      · rw [e]
        rfl
      · rw [e]
        exact trivial)
    (g := F0 m pc ls (.int (nI k) :: .int (nI dp) :: .ref a :: .int (nI sp) :: .ref a0 :: rest)) rfl (by rw [hml]) (rest := rest) rfl (by rw [hb]; exact hdg) hframes (by show 2 * 0 + _ + (7 + 11) ≤ _; omega)
  have e1 : copied (arrV E.2.1 N0 g0) (arrV E.2.1 N1 g1) (nI sp) (nI dp) (nI k) = arrV E.2.1 N1 (va_cpy g0 g1 (nI sp).toNatClampNeg (nI dp).toNatClampNeg (nI k).toNatClampNeg) := va_copied (fun z => z) E.2.1 E.2.1 g0 g1 (show (nI sp).toNatClampNeg + (nI k).toNatClampNeg ≤ N0 by rw [nI_clamp ls', nI_clamp lk]; omega)
  rw [e1, nI_clamp ls', nI_clamp ld, nI_clamp lk] at X'
  rw [e1, nI_clamp ls', nI_clamp ld, nI_clamp lk] at step
  have hl : a < H.size := (Array.getElem?_eq_some_iff.mp d1).1
  generalize hN : arrV E.2.1 N1 (va_cpy g0 g1 sp dp k) = N at X' step
  have hheap : ((T.setVm vm').setCell a N).heap = H.setIfInBounds a N := by rw [← hT]; rfl
  have oq : ∀ q : Nat, q ≠ a → (H.setIfInBounds a N)[q]? = H[q]? := fun q hq => by simp [Array.getElem?_setIfInBounds, Ne.symm hq]
  have hnew : rs_A E (H.setIfInBounds a N) a n1 (va_cpy cf df sp dp k) := by
    refine ⟨N1, va_cpy g0 g1 sp dp k, ?_, d2, d3, fun j hj => ?_⟩
    · rw [hN]
      simp [Array.getElem?_setIfInBounds, hl]
    · unfold va_cpy
      by_cases h : dp ≤ j ∧ j < dp + k
      · rw [if_pos h, if_pos h]; exact f4 _ (by omega)
      · rw [if_neg h, if_neg h]; exact d4 j hj
  obtain ⟨t, a1, b1⟩ := kk _ _ hnew oq (by simp) ⟨by simp; exact hS.1, fun q g1 g2 => by
      rw [oq q (fun e => g2 (by rw [e]; exact hA))]
      exact hS.2.1 q g1 g2, fun q hq => by
      rcases List.mem_append.mp hq with h | h
      · exact hS.2.2 q h
      · obtain ⟨z, -, hz⟩ := List.mem_map.mp h
        rw [← hz]
        exact hA⟩ _ hheap X'
  exact ⟨t, step t a1, b1⟩
end RSC2
end
section
/-! ModulusGF: numbers -/
theorem gf_log {a : rsK} (h : a ≠ 0) : (rs_n (rs_L.getD a.val 0)).val = rs_lg a := rs_n_val (by have := rs_lg_lt h; unfold rs_lg at this; omega)
theorem rs_x_mod (n : Nat) : rs_x (n % 928) = rs_x n := by
  have h1 : rs_x n = rs_x (928 * (n / 928) + n % 928) := by rw [Nat.div_add_mod]
  have h2 : rs_x (928 * (n / 928)) = 1 := by
    rw [← rs_x_pw, rs_x_928]
    generalize n / 928 = k
    induction k with
    | zero => rfl
    | succ k ih => rw [rs_pw_s, ih]; decide
  rw [h1, rs_x_add, h2]
  grind
theorem gf_mul {a b : rsK} (ha : a ≠ 0) (hb : b ≠ 0) : rs_x ((rs_lg a + rs_lg b) % 928) = a * b := by
  rw [rs_x_mod, rs_x_add, rs_x_lg ha, rs_x_lg hb]
set_option maxHeartbeats 4000000 in
set_option maxRecDepth 100000 in
/-- add -/
theorem met_X3_add (E : rsE) (l : Launch) (a b : rsK) : rs_Ci E l yX3_add cX3_add 3 .int ⟨0, 0, 0, 0⟩ rs_no [.ref (E.2.2 0), .int (kI a), .int (kI b)] (fun _ => True) (fun r _ => r = kI (a + b)) := by
  refine rs_goI (by decide) (Nat.le_of_ble_eq_true rfl) (fun p e R s m args below meth c Q hx hb hml hown hts hnm hK hF hpre hRf hRc hRs hRl hA hS hret ls hl => ?_)
  have hl : lv_has ls 3 [(0, .ref (E.2.2 0)), (1, .int (kI a)), (2, .int (kI b))] := hl
  have ha9 := a.isLt
  have hb9 := b.isLt
  refine lv_iload_n hx hb dX3_add_0 rfl (lv_at hl 1 rfl) ?_
  refine lv_iload_n hx hb dX3_add_1 rfl (lv_at hl 2 rfl) ?_
  refine rs_iadd hx hb dX3_add_2 ?_
  refine lv_aload_n hx hb dX3_add_3 rfl (lv_at hl 0 rfl) ?_
  refine rs_gf hx hb hown (hF.k0 (rs_S.X hS)).2.2.2.2.2.1 (hts _ q320) dX3_add_4 ?_
  refine rs_irem hx hb dX3_add_7 (by decide) (by omega) (by decide) ?_
  exact hret _ _ _ _ _ _ _ hS dX3_add_8 rfl (by omega) (by omega) rfl

set_option maxHeartbeats 4000000 in
set_option maxRecDepth 100000 in
/-- subtract -/
theorem met_X3_subtract (E : rsE) (l : Launch) (a b : rsK) : rs_Ci E l yX3_subtract cX3_subtract 3 .int ⟨0, 0, 0, 0⟩ rs_no [.ref (E.2.2 0), .int (kI a), .int (kI b)] (fun _ => True) (fun r _ => r = kI (a - b)) := by
  refine rs_goI (by decide) (Nat.le_of_ble_eq_true rfl) (fun p e R s m args below meth c Q hx hb hml hown hts hnm hK hF hpre hRf hRc hRs hRl hA hS hret ls hl => ?_)
  have hl : lv_has ls 3 [(0, .ref (E.2.2 0)), (1, .int (kI a)), (2, .int (kI b))] := hl
  have ha9 := a.isLt
  have hb9 := b.isLt
  refine lv_aload_n hx hb dX3_subtract_0 rfl (lv_at hl 0 rfl) ?_
  refine rs_gf hx hb hown (hF.k0 (rs_S.X hS)).2.2.2.2.2.1 (hts _ q320) dX3_subtract_1 ?_
  refine lv_iload_n hx hb dX3_subtract_4 rfl (lv_at hl 1 rfl) ?_
  refine rs_iadd hx hb dX3_subtract_5 ?_
  refine lv_iload_n hx hb dX3_subtract_6 rfl (lv_at hl 2 rfl) ?_
  refine rs_isub hx hb dX3_subtract_7 (by omega) ?_
  refine lv_aload_n hx hb dX3_subtract_8 rfl (lv_at hl 0 rfl) ?_
  refine rs_gf hx hb hown (hF.k0 (rs_S.X hS)).2.2.2.2.2.1 (hts _ q320) dX3_subtract_9 ?_
  refine rs_irem hx hb dX3_subtract_12 (by omega) (by omega) (by omega) ?_
  exact hret _ _ _ _ _ _ _ hS dX3_subtract_13 rfl (by omega) (by omega) (kI_sub a b)

set_option maxHeartbeats 4000000 in
set_option maxRecDepth 100000 in
/-- exp -/
theorem met_X3_exp (E : rsE) (l : Launch) (i : Nat) (hi : i < 929) : rs_Ci E l yX3_exp cX3_exp 2 .int ⟨0, 0, 0, 0⟩ rs_no [.ref (E.2.2 0), .int (nI i)] (fun _ => True) (fun r _ => r = kI (rs_x i)) := by
  refine rs_goI (by decide) (Nat.le_of_ble_eq_true rfl) (fun p e R s m args below meth c Q hx hb hml hown hts hnm hK hF hpre hRf hRc hRs hRl hA hS hret ls hl => ?_)
  have hl : lv_has ls 2 [(0, .ref (E.2.2 0)), (1, .int (nI i))] := hl
  refine lv_aload_n hx hb dX3_exp_0 rfl (lv_at hl 0 rfl) ?_
  refine rs_gf hx hb hown (hF.k0 (rs_S.X hS)).2.1 (hts _ q319) dX3_exp_1 ?_
  refine lv_iload_n hx hb dX3_exp_4 rfl (lv_at hl 1 rfl) ?_
  refine rs_iald hx hb hK (hF.k0 (rs_S.X hS)).2.2.2.2.2.2.1 hi (by decide) dX3_exp_5 ?_
  exact hret _ _ _ _ _ _ _ hS dX3_exp_6 rfl (by omega) (by omega) rfl

set_option maxHeartbeats 4000000 in
set_option maxRecDepth 100000 in
/-- log -/
theorem met_X3_log (E : rsE) (l : Launch) (a : rsK) (ha : a ≠ 0) : rs_Ci E l yX3_log cX3_log 2 .int ⟨0, 0, 0, 0⟩ rs_no [.ref (E.2.2 0), .int (kI a)] (fun _ => True) (fun r _ => r = nI (rs_lg a)) := by
  refine rs_goI (by decide) (Nat.le_of_ble_eq_true rfl) (fun p e R s m args below meth c Q hx hb hml hown hts hnm hK hF hpre hRf hRc hRs hRl hA hS hret ls hl => ?_)
  have hl : lv_has ls 2 [(0, .ref (E.2.2 0)), (1, .int (kI a))] := hl
  refine lv_iload_n hx hb dX3_log_0 rfl (lv_at hl 1 rfl) ?_
  refine rs_ifne (tgt := 12) hx hb dX3_log_1 (by decide) (rs_lt a) (fun h1 => ?_) (fun h1 => ?_)
  · refine lv_aload_n hx hb dX3_log_12 rfl (lv_at hl 0 rfl) ?_
    refine rs_gf hx hb hown (hF.k0 (rs_S.X hS)).2.2.1 (hts _ q321) dX3_log_13 ?_
    refine lv_iload_n hx hb dX3_log_16 rfl (lv_at hl 1 rfl) ?_
    refine rs_iald hx hb hK (hF.k0 (rs_S.X hS)).2.2.2.2.2.2.2.1 a.isLt (by decide) dX3_log_17 ?_
    refine rs_top (b := (rs_lg a)) (gf_log ha) ?_
    exact hret _ _ _ _ _ _ _ hS dX3_log_18 rfl (by omega) (by omega) rfl
  · exact absurd (rs_val_0.mp h1) ha

set_option maxHeartbeats 4000000 in
set_option maxRecDepth 100000 in
/-- inverse -/
theorem met_X3_inverse (E : rsE) (l : Launch) (a : rsK) (ha : a ≠ 0) : rs_Ci E l yX3_inverse cX3_inverse 2 .int ⟨0, 0, 0, 0⟩ rs_no [.ref (E.2.2 0), .int (kI a)] (fun _ => True) (fun r _ => r = kI (rs_iv a)) := by
  refine rs_goI (by decide) (Nat.le_of_ble_eq_true rfl) (fun p e R s m args below meth c Q hx hb hml hown hts hnm hK hF hpre hRf hRc hRs hRl hA hS hret ls hl => ?_)
  have hl : lv_has ls 2 [(0, .ref (E.2.2 0)), (1, .int (kI a))] := hl
  have hlg := rs_lg_lt ha
  refine lv_iload_n hx hb dX3_inverse_0 rfl (lv_at hl 1 rfl) ?_
  refine rs_ifne (tgt := 12) hx hb dX3_inverse_1 (by decide) (rs_lt a) (fun h1 => ?_) (fun h1 => ?_)
  · refine lv_aload_n hx hb dX3_inverse_12 rfl (lv_at hl 0 rfl) ?_
    refine rs_gf hx hb hown (hF.k0 (rs_S.X hS)).2.1 (hts _ q319) dX3_inverse_13 ?_
    refine lv_aload_n hx hb dX3_inverse_16 rfl (lv_at hl 0 rfl) ?_
    refine rs_gf hx hb hown (hF.k0 (rs_S.X hS)).2.2.2.2.2.1 (hts _ q320) dX3_inverse_17 ?_
    refine lv_aload_n hx hb dX3_inverse_20 rfl (lv_at hl 0 rfl) ?_
    refine rs_gf hx hb hown (hF.k0 (rs_S.X hS)).2.2.1 (hts _ q321) dX3_inverse_21 ?_
    refine lv_iload_n hx hb dX3_inverse_24 rfl (lv_at hl 1 rfl) ?_
    refine rs_iald hx hb hK (hF.k0 (rs_S.X hS)).2.2.2.2.2.2.2.1 a.isLt (by decide) dX3_inverse_25 ?_
    refine rs_top (b := (rs_lg a)) (gf_log ha) ?_
    refine rs_isub hx hb dX3_inverse_26 (by omega) ?_
    refine lv_iconst (v := nI 1) hx hb dX3_inverse_27 (by decide) ?_
    refine rs_isub hx hb dX3_inverse_28 (by omega) ?_
    refine rs_top (b := (928 - rs_lg a)) (by omega) ?_
    refine rs_iald hx hb hK (hF.k0 (rs_S.X hS)).2.2.2.2.2.2.1 (by omega) (by decide) dX3_inverse_29 ?_
    exact hret _ _ _ _ _ _ _ hS dX3_inverse_30 rfl (by omega) (by omega) rfl
  · exact absurd (rs_val_0.mp h1) ha

set_option maxHeartbeats 4000000 in
set_option maxRecDepth 100000 in
/-- multiply -/
theorem met_X3_multiply (E : rsE) (l : Launch) (a b : rsK) : rs_Ci E l yX3_multiply cX3_multiply 3 .int ⟨0, 0, 0, 0⟩ rs_no [.ref (E.2.2 0), .int (kI a), .int (kI b)] (fun _ => True) (fun r _ => r = kI (a * b)) := by
  refine rs_goI (by decide) (Nat.le_of_ble_eq_true rfl) (fun p e R s m args below meth c Q hx hb hml hown hts hnm hK hF hpre hRf hRc hRs hRl hA hS hret ls hl => ?_)
  have hl : lv_has ls 3 [(0, .ref (E.2.2 0)), (1, .int (kI a)), (2, .int (kI b))] := hl
  refine lv_iload_n hx hb dX3_multiply_0 rfl (lv_at hl 1 rfl) ?_
  refine rs_ifeq (tgt := 8) hx hb dX3_multiply_1 (by decide) (rs_lt a) (fun h1 => ?_) (fun h1 => ?_)
  · have h1 := rs_val_0.mp h1
    refine lv_iconst (v := nI 0) hx hb dX3_multiply_8 (by decide) ?_
    exact hret _ _ _ _ _ _ _ hS dX3_multiply_9 rfl (by omega) (by omega) (by rw [h1]; show nI 0 = kI (0 * b); rw [show (0 : rsK) * b = 0 by grind]; rfl)
  · refine lv_iload_n hx hb dX3_multiply_4 rfl (lv_at hl 2 rfl) ?_
    refine rs_ifne (tgt := 10) hx hb dX3_multiply_5 (by decide) (rs_lt b) (fun h2 => ?_) (fun h2 => ?_)
    · have h1 : a ≠ 0 := fun z => h1 (rs_val_0.mpr z)
      have h2 : b ≠ 0 := fun z => h2 (rs_val_0.mpr z)
      have hla := rs_lg_lt h1
      have hlb := rs_lg_lt h2
      refine lv_aload_n hx hb dX3_multiply_10 rfl (lv_at hl 0 rfl) ?_
      refine rs_gf hx hb hown (hF.k0 (rs_S.X hS)).2.1 (hts _ q319) dX3_multiply_11 ?_
      refine lv_aload_n hx hb dX3_multiply_14 rfl (lv_at hl 0 rfl) ?_
      refine rs_gf hx hb hown (hF.k0 (rs_S.X hS)).2.2.1 (hts _ q321) dX3_multiply_15 ?_
      refine lv_iload_n hx hb dX3_multiply_18 rfl (lv_at hl 1 rfl) ?_
      refine rs_iald hx hb hK (hF.k0 (rs_S.X hS)).2.2.2.2.2.2.2.1 a.isLt (by decide) dX3_multiply_19 ?_
      refine rs_top (b := (rs_lg a)) (gf_log h1) ?_
      refine lv_aload_n hx hb dX3_multiply_20 rfl (lv_at hl 0 rfl) ?_
      refine rs_gf hx hb hown (hF.k0 (rs_S.X hS)).2.2.1 (hts _ q321) dX3_multiply_21 ?_
      refine lv_iload_n hx hb dX3_multiply_24 rfl (lv_at hl 2 rfl) ?_
      refine rs_iald hx hb hK (hF.k0 (rs_S.X hS)).2.2.2.2.2.2.2.1 b.isLt (by decide) dX3_multiply_25 ?_
      refine rs_top (b := (rs_lg b)) (gf_log h2) ?_
      refine rs_iadd hx hb dX3_multiply_26 ?_
      refine lv_aload_n hx hb dX3_multiply_27 rfl (lv_at hl 0 rfl) ?_
      refine rs_gf hx hb hown (hF.k0 (rs_S.X hS)).2.2.2.2.2.1 (hts _ q320) dX3_multiply_28 ?_
      refine lv_iconst (v := nI 1) hx hb dX3_multiply_31 (by decide) ?_
      refine rs_isub hx hb dX3_multiply_32 (by omega) ?_
      refine rs_irem hx hb dX3_multiply_33 (by omega) (by omega) (by omega) ?_
      refine rs_top (b := ((rs_lg a + rs_lg b) % 928)) rfl ?_
      refine rs_iald hx hb hK (hF.k0 (rs_S.X hS)).2.2.2.2.2.2.1 (by omega) (by decide) dX3_multiply_34 ?_
      exact hret _ _ _ _ _ _ _ hS dX3_multiply_35 rfl (by omega) (by omega) (by show kI _ = kI _; rw [gf_mul h1 h2])
    · have h2 := rs_val_0.mp h2
      refine lv_iconst (v := nI 0) hx hb dX3_multiply_8 (by decide) ?_
      exact hret _ _ _ _ _ _ _ hS dX3_multiply_9 rfl (by omega) (by omega) (by rw [h2]; show nI 0 = kI (a * 0); rw [show a * (0 : rsK) = 0 by grind]; rfl)

set_option maxHeartbeats 4000000 in
set_option maxRecDepth 100000 in
/-- getSize -/
theorem met_X3_getSize (E : rsE) (l : Launch)  : rs_Ci E l yX3_getSize cX3_getSize 1 .int ⟨0, 0, 0, 0⟩ rs_no [.ref (E.2.2 0)] (fun _ => True) (fun r _ => r = nI 929) := by
  refine rs_goI (by decide) (Nat.le_of_ble_eq_true rfl) (fun p e R s m args below meth c Q hx hb hml hown hts hnm hK hF hpre hRf hRc hRs hRl hA hS hret ls hl => ?_)
  have hl : lv_has ls 1 [(0, .ref (E.2.2 0))] := hl
  refine lv_aload_n hx hb dX3_getSize_0 rfl (lv_at hl 0 rfl) ?_
  refine rs_gf hx hb hown (hF.k0 (rs_S.X hS)).2.2.2.2.2.1 (hts _ q320) dX3_getSize_1 ?_
  exact hret _ _ _ _ _ _ _ hS dX3_getSize_4 rfl (by omega) (by omega) rfl

set_option maxHeartbeats 4000000 in
set_option maxRecDepth 100000 in
/-- getZero -/
theorem met_X3_getZero (E : rsE) (l : Launch)  : rs_Cr E l yX3_getZero cX3_getZero 1 (.object "ModulusPoly") ⟨0, 0, 0, 0⟩ rs_no [.ref (E.2.2 0)] (fun _ => True) (fun _ r _ => r = E.2.2 3) := by
  refine rs_goR (by decide) (Nat.le_of_ble_eq_true rfl) (Or.inl ⟨_, rfl⟩) (fun p e R s m args below meth c Q hx hb hml hown hts hnm hK hF hpre hRf hRc hRs hRl hA hS hret ls hl => ?_)
  have hl : lv_has ls 1 [(0, .ref (E.2.2 0))] := hl
  refine lv_aload_n hx hb dX3_getZero_0 rfl (lv_at hl 0 rfl) ?_
  refine rs_gf hx hb hown (hF.k0 (rs_S.X hS)).2.2.2.1 (hts _ q323) dX3_getZero_1 ?_
  exact hret _ _ _ _ _ _ _ hS dX3_getZero_4 (by omega) (by omega) (fun _ _ => rfl)

set_option maxHeartbeats 4000000 in
set_option maxRecDepth 100000 in
/-- getOne -/
theorem met_X3_getOne (E : rsE) (l : Launch)  : rs_Cr E l yX3_getOne cX3_getOne 1 (.object "ModulusPoly") ⟨0, 0, 0, 0⟩ rs_no [.ref (E.2.2 0)] (fun _ => True) (fun _ r _ => r = E.2.2 5) := by
  refine rs_goR (by decide) (Nat.le_of_ble_eq_true rfl) (Or.inl ⟨_, rfl⟩) (fun p e R s m args below meth c Q hx hb hml hown hts hnm hK hF hpre hRf hRc hRs hRl hA hS hret ls hl => ?_)
  have hl : lv_has ls 1 [(0, .ref (E.2.2 0))] := hl
  refine lv_aload_n hx hb dX3_getOne_0 rfl (lv_at hl 0 rfl) ?_
  refine rs_gf hx hb hown (hF.k0 (rs_S.X hS)).2.2.2.2.1 (hts _ q322) dX3_getOne_1 ?_
  exact hret _ _ _ _ _ _ _ hS dX3_getOne_4 (by omega) (by omega) (fun _ _ => rfl)
end
section
/-! ModulusPoly: its constructor, its small readers, evaluateAt -/
set_option maxHeartbeats 4000000 in
set_option maxRecDepth 100000 in
/-- ModulusPoly(field, array) -/
theorem met_X4_init (E : rsE) (l : Launch) (o b n : Nat) (cf : Nat → rsK) (hn1 : 1 ≤ n) (hn2 : n ≤ 100) : rs_Cv E l yX4_init cX4_init 5 ⟨1, 1, 100, 30⟩ (fun q => q = o) [.ref o, .ref (E.2.2 0), .ref b] (fun H => rs_O E H o 0 [.null, .null] ∧ rs_A E H b n cf ∧ o ≠ b) (fun H => ∃ (n2 : Nat) (cf2 : Nat → rsK), rs_P E H o n2 cf2 ∧ rs_N n2 cf2 ∧ n2 ≤ n ∧ ∀ x, rs_ev cf2 n2 x = rs_ev cf n x) := by
  refine rs_goV (by decide) (Nat.le_of_ble_eq_true rfl) (fun p e R s m args below meth c Q hx hb hml hown hts hnm hK hF hpre hRf hRc hRs hRl hA hS hret ls hl => ?_)
  have hl : lv_has ls 5 [(0, .ref o), (1, .ref (E.2.2 0)), (2, .ref b)] := hl
  obtain ⟨hO, hB, hob⟩ := hpre
  refine lv_aload_n hx hb dX4_init_0 rfl (lv_at hl 0 rfl) ?_
  refine W.objInit hx hb hown (hts _ q99) (hts _ q23) (hts _ q24) rfl (by rw [hml]; exact hl.1) rfl dX4_init_1 (by omega) (by rw [hRl]; exact Nat.le_of_ble_eq_true rfl) ?_
  refine W.eq (g2 := F0 m 4 ls []) rfl ?_
  refine lv_aload_n hx hb dX4_init_4 rfl (lv_at hl 2 rfl) ?_
  refine rs_alen hx hb hK (hB.kept (rs_S.X hS) (fun z => hob z.symm)) dX4_init_5 ?_
  refine rs_ifne (tgt := 17) hx hb dX4_init_6 (by decide) (by omega) (fun h1 => ?_) (fun h1 => ?_)
  · refine lv_aload_n hx hb dX4_init_17 rfl (lv_at hl 0 rfl) ?_
    refine lv_aload_n hx hb dX4_init_18 rfl (lv_at hl 1 rfl) ?_
    refine rs_putF (C := RX4) (T := TX4) (N := 2) (ci := 0) (ty := (.object "ModulusGF")) (v := .ref (E.2.2 0)) hx hb hts in_X4 tyX4 tyX4_ok nmX4 hown hK hS (Or.inl rfl) hO rfl 0 (by decide) (hts _ q167) (fun _ h9 => h9) rfl hnm rfl (by decide +kernel) rfl rfl (Nat.le_of_ble_eq_true rfl) dX4_init_19 (fun H locs hO ho hz hS => ?_)
    have hO : rs_O E H o 0 [.ref (E.2.2 0), .null] := hO
    refine lv_aload_n hx hb dX4_init_22 rfl (lv_at hl 2 rfl) ?_
    refine rs_alen hx hb hK (hB.kept (rs_S.X hS) (fun z => hob z.symm)) dX4_init_23 ?_
    refine lv_istore_n (lv' := [(3, .int (nI n)), (0, .ref o), (1, .ref (E.2.2 0)), (2, .ref b)]) hx hb dX4_init_24 rfl hl (by decide) rfl (fun ls hl => ?_)
    refine lv_iload_n hx hb dX4_init_25 rfl (lv_at hl 0 rfl) ?_
    refine lv_iconst (v := nI 1) hx hb dX4_init_26 (by decide) ?_
    refine rs_cle (tgt := 107) hx hb dX4_init_27 (by decide) (by omega) (by omega) (fun h2 => ?_) (fun h2 => ?_)
    · refine lv_aload_n hx hb dX4_init_107 rfl (lv_at hl 1 rfl) ?_
      refine lv_aload_n hx hb dX4_init_108 rfl (lv_at hl 3 rfl) ?_
      refine rs_putF (C := RX4) (T := TX4) (N := 2) (ci := 0) (ty := (.array .int)) (v := .ref b) hx hb hts in_X4 tyX4 tyX4_ok nmX4 hown hK hS (Or.inl rfl) hO rfl 1 (by decide) (hts _ q168) (fun _ h9 => h9) rfl hnm rfl (by decide +kernel) rfl rfl (Nat.le_of_ble_eq_true rfl) dX4_init_109 (fun H locs hO ho hz hS => ?_)
      have hO : rs_O E H o 0 [.ref (E.2.2 0), .ref b] := hO
      exact hret _ _ _ _ _ _ hS dX4_init_112 (by omega) (by omega) ⟨n, cf, ⟨b, hO, hB.kept (rs_S.X hS) (fun z => hob z.symm)⟩, ⟨hn1, fun h => absurd h (by omega)⟩, Nat.le_refl n, fun _ => rfl⟩
    · refine lv_aload_n hx hb dX4_init_30 rfl (lv_at hl 3 rfl) ?_
      refine lv_iconst (v := nI 0) hx hb dX4_init_31 (by decide) ?_
      refine rs_iald hx hb hK (hB.kept (rs_S.X hS) (fun z => hob z.symm)) (by omega) (by omega) dX4_init_32 ?_
      refine rs_ifne (tgt := 107) hx hb dX4_init_33 (by decide) (rs_lt _) (fun h3 => ?_) (fun h3 => ?_)
      · refine lv_aload_n hx hb dX4_init_107 rfl (lv_at hl 1 rfl) ?_
        refine lv_aload_n hx hb dX4_init_108 rfl (lv_at hl 3 rfl) ?_
        refine rs_putF (C := RX4) (T := TX4) (N := 2) (ci := 0) (ty := (.array .int)) (v := .ref b) hx hb hts in_X4 tyX4 tyX4_ok nmX4 hown hK hS (Or.inl rfl) hO rfl 1 (by decide) (hts _ q168) (fun _ h9 => h9) rfl hnm rfl (by decide +kernel) rfl rfl (Nat.le_of_ble_eq_true rfl) dX4_init_109 (fun H locs hO ho hz hS => ?_)
        have hO : rs_O E H o 0 [.ref (E.2.2 0), .ref b] := hO
        exact hret _ _ _ _ _ _ hS dX4_init_112 (by omega) (by omega) ⟨n, cf, ⟨b, hO, hB.kept (rs_S.X hS) (fun z => hob z.symm)⟩, ⟨hn1, fun _ h => h3 (rs_val_0.mpr h)⟩, Nat.le_refl n, fun _ => rfl⟩
      · have h3 : cf 0 = 0 := rs_val_0.mp h3
        refine lv_iconst (v := nI 1) hx hb dX4_init_36 (by decide) ?_
        refine lv_istore (lv' := [(4, .int (nI 1)), (3, .int (nI n)), (0, .ref o), (1, .ref (E.2.2 0)), (2, .ref b)]) hx hb dX4_init_37 hl (by decide) rfl (fun ls hl => ?_)
        have fin : ∀ (z : Nat) (ls : Array Slot), 1 ≤ z → z ≤ n → (∀ j, j < z → cf j = 0) → (z < n → cf z ≠ 0) → lv_has ls 5 [(0, .ref o), (1, .ref (E.2.2 0)), (2, .ref b), (3, .int (nI n)), (4, .int (nI z))] → W p l e R s m args below meth c H locs 0 0 Q (F0 m 58 ls []) := by
          intro z ls hz1 hz2 hzz hzn hl
          refine lv_iload hx hb dX4_init_58 (lv_at hl 4 rfl) ?_
          refine lv_iload_n hx hb dX4_init_60 rfl (lv_at hl 3 rfl) ?_
          refine rs_cne (tgt := 78) hx hb dX4_init_61 (by decide) (by omega) (by omega) (fun h4 => ?_) (fun h4 => ?_)
          · refine lv_aload_n hx hb dX4_init_78 rfl (lv_at hl 0 rfl) ?_
            refine lv_iload_n hx hb dX4_init_79 rfl (lv_at hl 3 rfl) ?_
            refine lv_iload hx hb dX4_init_80 (lv_at hl 4 rfl) ?_
            refine rs_isub hx hb dX4_init_82 (by omega) ?_
            refine rs_newa (n := (n - z)) hx hb hK hts hS (by omega) (by omega) (by omega) dX4_init_83 (fun q H hq_q hs_q hN hX hz_q hS => ?_)
            have ne_o_q : o ≠ q := by rw [hq_q]; exact Nat.ne_of_lt (rs_O.lt hO)
            have hO := hO.k0 hX
            refine rs_putF (C := RX4) (T := TX4) (N := 2) (ci := 0) (ty := (.array .int)) (v := .ref q) hx hb hts in_X4 tyX4 tyX4_ok nmX4 hown hK hS (Or.inl rfl) hO rfl 1 (by decide) (hts _ q168) (fun _ h9 => h9) rfl hnm rfl (by decide +kernel) rfl rfl (Nat.le_of_ble_eq_true rfl) dX4_init_85 (fun H locs hO ho hz hS => ?_)
            have hO : rs_O E H o 0 [.ref (E.2.2 0), .ref q] := hO
            have hN := hN.st ho ne_o_q.symm
            refine lv_aload_n hx hb dX4_init_88 rfl (lv_at hl 2 rfl) ?_
            refine lv_iload hx hb dX4_init_89 (lv_at hl 4 rfl) ?_
            refine lv_aload_n hx hb dX4_init_91 rfl (lv_at hl 0 rfl) ?_
            refine rs_gp hx hb hown hts hK hO dX4_init_92 ?_
            refine lv_iconst (v := nI 0) hx hb dX4_init_95 (by decide) ?_
            refine lv_aload_n hx hb dX4_init_96 rfl (lv_at hl 0 rfl) ?_
            refine rs_gp hx hb hown hts hK hO dX4_init_97 ?_
            refine rs_alen hx hb hK hN dX4_init_100 ?_
            refine rs_copy (cf := cf) (df := fun _ => 0) (sp := z) (dp := 0) (k := n - z) (n0 := n) (n1 := n - z) hx hb (hml.trans hl.1.symm) hown hts q164 hK hS (hA _ hs_q) (hB.kept (rs_S.X hS) (fun z => hob z.symm)) hN (by omega) (by omega) (by omega) (by omega) (by omega) (by rw [hRl]; exact Nat.le_of_ble_eq_true rfl) dX4_init_101 (fun H locs hN ho hz hS => ?_)
            have hO := hO.st ho ne_o_q
            refine lv_goto (tgt := 112) hx hb dX4_init_104 (by decide) ?_
            refine hret _ _ _ _ _ _ hS dX4_init_112 (by omega) (by omega) ⟨n - z, va_cpy cf (fun _ => 0) z 0 (n - z), ⟨q, hO, hN⟩, ⟨by omega, fun _ => ?_⟩, by omega, fun x => ?_⟩
            · rw [pk_cpy_in (Nat.zero_le _) (by omega)]
              exact hzn (by omega)
            · rw [show n = z + (n - z) by omega, rs_ev_ap, rs_ev_z z hzz, show z + (n - z) - z = n - z by omega]
              rw [rs_ev_cg (n - z) (d := fun j => cf (z + j)) (fun j hj => by rw [pk_cpy_in (Nat.zero_le _) (by omega)]; rfl) x]
              grind
          · refine lv_aload_n hx hb dX4_init_64 rfl (lv_at hl 0 rfl) ?_
            refine lv_iconst (v := nI 1) hx hb dX4_init_65 (by decide) ?_
            refine rs_newa (n := 1) hx hb hK hts hS (by omega) (by omega) (by omega) dX4_init_66 (fun q H hq_q hs_q hN hX hz_q hS => ?_)
            have ne_o_q : o ≠ q := by rw [hq_q]; exact Nat.ne_of_lt (rs_O.lt hO)
            have hO := hO.k0 hX
            refine lv_dup hx hb dX4_init_68 rfl ?_
            refine lv_iconst (v := nI 0) hx hb dX4_init_69 (by decide) ?_
            refine lv_iconst (v := nI 0) hx hb dX4_init_70 (by decide) ?_
            refine rs_iast hx hb hK 0 hN hS (hA _ hs_q) (by omega) (by omega) dX4_init_71 (fun H locs hN ho hz hS => ?_)
            have hO := hO.st ho ne_o_q
            refine rs_putF (C := RX4) (T := TX4) (N := 2) (ci := 0) (ty := (.array .int)) (v := .ref q) hx hb hts in_X4 tyX4 tyX4_ok nmX4 hown hK hS (Or.inl rfl) hO rfl 1 (by decide) (hts _ q168) (fun _ h9 => h9) rfl hnm rfl (by decide +kernel) rfl rfl (Nat.le_of_ble_eq_true rfl) dX4_init_72 (fun H locs hO ho hz hS => ?_)
            have hO : rs_O E H o 0 [.ref (E.2.2 0), .ref q] := hO
            have hN := hN.st ho ne_o_q.symm
            refine lv_goto (tgt := 104) hx hb dX4_init_75 (by decide) ?_
            refine lv_goto (tgt := 112) hx hb dX4_init_104 (by decide) ?_
            refine hret _ _ _ _ _ _ hS dX4_init_112 (by omega) (by omega) ⟨1, _, ⟨q, hO, hN⟩, ⟨Nat.le_refl 1, fun z => absurd z (by decide)⟩, hn1, fun x => ?_⟩
            rw [rs_ev_z n (fun j hj => hzz j (by omega)), rs_ev_z 1 (fun j hj => ?_)]
            unfold va_up
            rw [if_pos (by omega)]
        have loop : ∀ (k z : Nat) (ls : Array Slot), z + k = n → 1 ≤ z → (∀ j, j < z → cf j = 0) → lv_has ls 5 [(0, .ref o), (1, .ref (E.2.2 0)), (2, .ref b), (3, .int (nI n)), (4, .int (nI z))] → W p l e R s m args below meth c H locs 0 0 Q (F0 m 39 ls []) := by
          intro k
          induction k with
          | zero =>
            intro z ls hk hz1 hzz hl
            refine lv_iload hx hb dX4_init_39 (lv_at hl 4 rfl) ?_
            refine lv_iload_n hx hb dX4_init_41 rfl (lv_at hl 3 rfl) ?_
            refine rs_cge (tgt := 58) hx hb dX4_init_42 (by decide) (by omega) (by omega) (fun h4 => ?_) (fun h4 => ?_)
            · exact fin z ls hz1 (by omega) hzz (fun h => absurd h (by omega)) hl
            · exact absurd h4 (by omega)
          | succ k ih =>
            intro z ls hk hz1 hzz hl
            refine lv_iload hx hb dX4_init_39 (lv_at hl 4 rfl) ?_
            refine lv_iload_n hx hb dX4_init_41 rfl (lv_at hl 3 rfl) ?_
            refine rs_cge (tgt := 58) hx hb dX4_init_42 (by decide) (by omega) (by omega) (fun h4 => ?_) (fun h4 => ?_)
            · exact absurd h4 (by omega)
            · refine lv_aload_n hx hb dX4_init_45 rfl (lv_at hl 2 rfl) ?_
              refine lv_iload hx hb dX4_init_46 (lv_at hl 4 rfl) ?_
              refine rs_iald hx hb hK (hB.kept (rs_S.X hS) (fun z => hob z.symm)) (by omega) (by omega) dX4_init_48 ?_
              refine rs_ifne (tgt := 58) hx hb dX4_init_49 (by decide) (rs_lt _) (fun h5 => ?_) (fun h5 => ?_)
              · exact fin z ls hz1 (by omega) hzz (fun _ h => h5 (rs_val_0.mpr h)) hl
              · have h5 : cf z = 0 := rs_val_0.mp h5
                refine lv_iinc (v := nI (z + 1)) (lv' := [(4, .int (nI (z + 1))), (0, .ref o), (1, .ref (E.2.2 0)), (2, .ref b), (3, .int (nI n))]) hx hb dX4_init_52 hl (k := 4) rfl (nI_1 _) (by decide) rfl (fun ls hl => ?_)
                refine lv_goto (tgt := 39) hx hb dX4_init_55 (by decide) ?_
                exact ih (z + 1) ls (by omega) (by omega) (fun j hj => by
                  rcases Nat.lt_or_ge j z with h6 | h6
                  · exact hzz j h6
                  · rw [show j = z by omega]; exact h5) (lv_sub hl [1, 2, 3, 4, 0] rfl)
        exact loop (n - 1) 1 ls (by omega) (by omega) (fun j hj => by rw [show j = 0 by omega]; exact h3) (lv_sub hl [2, 3, 4, 1, 0] rfl)
  · exact absurd h1 (by omega)

set_option maxHeartbeats 4000000 in
set_option maxRecDepth 100000 in
theorem met_X4_getDegree (E : rsE) (l : Launch) (a n : Nat) (cf : Nat → rsK) (hn1 : 1 ≤ n) : rs_Ci E l yX4_getDegree cX4_getDegree 1 .int ⟨0, 0, 0, 0⟩ rs_no [.ref a] (fun H => rs_P E H a n cf) (fun r _ => r = nI (n - 1)) := by
  refine rs_goI (by decide) (Nat.le_of_ble_eq_true rfl) (fun p e R s m args below meth c Q hx hb hml hown hts hnm hK hF hpre hRf hRc hRs hRl hA hS hret ls hl => ?_)
  have hl : lv_has ls 1 [(0, .ref a)] := hl
  obtain ⟨b0, hOa, hCa⟩ := hpre
  refine lv_aload_n hx hb dX4_getDegree_0 rfl (lv_at hl 0 rfl) ?_
  refine rs_gp hx hb hown hts hK (hOa.k0 (rs_S.X hS)) dX4_getDegree_1 ?_
  refine rs_alen hx hb hK (hCa.k0 (rs_S.X hS)) dX4_getDegree_4 ?_
  refine lv_iconst (v := nI 1) hx hb dX4_getDegree_5 (by decide) ?_
  refine rs_isub hx hb dX4_getDegree_6 (by omega) ?_
  exact hret _ _ _ _ _ _ _ hS dX4_getDegree_7 rfl (by omega) (by omega) rfl

set_option maxHeartbeats 4000000 in
set_option maxRecDepth 100000 in
theorem met_X4_isZero (E : rsE) (l : Launch) (a n : Nat) (cf : Nat → rsK) (hn1 : 1 ≤ n) (hn2 : n ≤ 100) : rs_Ci E l yX4_isZero cX4_isZero 1 .boolean ⟨0, 0, 0, 0⟩ rs_no [.ref a] (fun H => rs_P E H a n cf) (fun r _ => (cf 0 = 0 ∧ r = nI 1) ∨ (cf 0 ≠ 0 ∧ r = nI 0)) := by
  refine rs_goI (by decide) (Nat.le_of_ble_eq_true rfl) (fun p e R s m args below meth c Q hx hb hml hown hts hnm hK hF hpre hRf hRc hRs hRl hA hS hret ls hl => ?_)
  have hl : lv_has ls 1 [(0, .ref a)] := hl
  obtain ⟨b0, hOa, hCa⟩ := hpre
  refine lv_aload_n hx hb dX4_isZero_0 rfl (lv_at hl 0 rfl) ?_
  refine rs_gp hx hb hown hts hK (hOa.k0 (rs_S.X hS)) dX4_isZero_1 ?_
  refine lv_iconst (v := nI 0) hx hb dX4_isZero_4 (by decide) ?_
  refine rs_iald hx hb hK (hCa.k0 (rs_S.X hS)) (by omega) (by omega) dX4_isZero_5 ?_
  refine rs_ifne (tgt := 13) hx hb dX4_isZero_6 (by decide) (rs_lt _) (fun h1 => ?_) (fun h1 => ?_)
  · refine lv_iconst (v := nI 0) hx hb dX4_isZero_13 (by decide) ?_
    exact hret _ _ _ _ _ _ _ hS dX4_isZero_14 (by decide) (by omega) (by omega) (Or.inr ⟨fun h => h1 (rs_val_0.mpr h), rfl⟩)
  · refine lv_iconst (v := nI 1) hx hb dX4_isZero_9 (by decide) ?_
    refine lv_goto (tgt := 14) hx hb dX4_isZero_10 (by decide) ?_
    exact hret _ _ _ _ _ _ _ hS dX4_isZero_14 (by decide) (by omega) (by omega) (Or.inl ⟨rs_val_0.mp h1, rfl⟩)

set_option maxHeartbeats 4000000 in
set_option maxRecDepth 100000 in
theorem met_X4_getCoefficient (E : rsE) (l : Launch) (a n d : Nat) (cf : Nat → rsK) (hd : d < n) (hn2 : n ≤ 100) : rs_Ci E l yX4_getCoefficient cX4_getCoefficient 2 .int ⟨0, 0, 0, 0⟩ rs_no [.ref a, .int (nI d)] (fun H => rs_P E H a n cf) (fun r _ => r = kI (cf (n - 1 - d))) := by
  refine rs_goI (by decide) (Nat.le_of_ble_eq_true rfl) (fun p e R s m args below meth c Q hx hb hml hown hts hnm hK hF hpre hRf hRc hRs hRl hA hS hret ls hl => ?_)
  have hl : lv_has ls 2 [(0, .ref a), (1, .int (nI d))] := hl
  obtain ⟨b0, hOa, hCa⟩ := hpre
  refine lv_aload_n hx hb dX4_getCoefficient_0 rfl (lv_at hl 0 rfl) ?_
  refine rs_gp hx hb hown hts hK (hOa.k0 (rs_S.X hS)) dX4_getCoefficient_1 ?_
  refine lv_aload_n hx hb dX4_getCoefficient_4 rfl (lv_at hl 0 rfl) ?_
  refine rs_gp hx hb hown hts hK (hOa.k0 (rs_S.X hS)) dX4_getCoefficient_5 ?_
  refine rs_alen hx hb hK (hCa.k0 (rs_S.X hS)) dX4_getCoefficient_8 ?_
  refine lv_iconst (v := nI 1) hx hb dX4_getCoefficient_9 (by decide) ?_
  refine rs_isub hx hb dX4_getCoefficient_10 (by omega) ?_
  refine lv_iload_n hx hb dX4_getCoefficient_11 rfl (lv_at hl 1 rfl) ?_
  refine rs_isub hx hb dX4_getCoefficient_12 (by omega) ?_
  refine rs_iald hx hb hK (hCa.k0 (rs_S.X hS)) (by omega) (by omega) dX4_getCoefficient_13 ?_
  exact hret _ _ _ _ _ _ _ hS dX4_getCoefficient_14 rfl (by omega) (by omega) rfl

set_option maxHeartbeats 4000000 in
set_option maxRecDepth 100000 in
theorem met_X4_evaluateAt (E : rsE) (l : Launch) (a n : Nat) (cf : Nat → rsK) (x : rsK) (hn1 : 1 ≤ n) (hn2 : n ≤ 100) : rs_Ci E l yX4_evaluateAt cX4_evaluateAt 7 .int ⟨1, 0, 0, 40⟩ rs_no [.ref a, .int (kI x)] (fun H => rs_P E H a n cf) (fun r _ => r = kI (rs_ev cf n x)) := by
  refine rs_goI (by decide) (Nat.le_of_ble_eq_true rfl) (fun p e R s m args below meth c Q hx hb hml hown hts hnm hK hF hpre hRf hRc hRs hRl hA hS hret ls hl => ?_)
  have hl : lv_has ls 7 [(0, .ref a), (1, .int (kI x))] := hl
  have hpre0 := hpre
  obtain ⟨b0, hOa, hCa⟩ := hpre
  refine lv_iload_n hx hb dX4_evaluateAt_0 rfl (lv_at hl 1 rfl) ?_
  refine rs_ifne (tgt := 10) hx hb dX4_evaluateAt_1 (by decide) (rs_lt x) (fun h1 => ?_) (fun h1 => ?_)
  · refine lv_iload_n hx hb dX4_evaluateAt_10 rfl (lv_at hl 1 rfl) ?_
    refine lv_iconst (v := nI 1) hx hb dX4_evaluateAt_11 (by decide) ?_
    refine rs_cne (tgt := 61) hx hb dX4_evaluateAt_12 (by decide) (rs_lt x) (by decide) (fun h2 => ?_) (fun h2 => ?_)
    · refine lv_aload_n hx hb dX4_evaluateAt_61 rfl (lv_at hl 0 rfl) ?_
      refine rs_gp hx hb hown hts hK (hOa.k0 (rs_S.X hS)) dX4_evaluateAt_62 ?_
      refine lv_iconst (v := nI 0) hx hb dX4_evaluateAt_65 (by decide) ?_
      refine rs_iald hx hb hK (hCa.k0 (rs_S.X hS)) (by omega) (by omega) dX4_evaluateAt_66 ?_
      refine rs_top (b := (rs_ev cf 1 x).val) (by rw [rs_ev_s, rs_ev_0]; congr 1; grind) ?_
      refine lv_istore_n (lv' := [(2, .int (kI (rs_ev cf 1 x))), (0, .ref a), (1, .int (kI x))]) hx hb dX4_evaluateAt_67 rfl hl (by decide) rfl (fun ls hl => ?_)
      refine lv_aload_n hx hb dX4_evaluateAt_68 rfl (lv_at hl 1 rfl) ?_
      refine rs_gp hx hb hown hts hK (hOa.k0 (rs_S.X hS)) dX4_evaluateAt_69 ?_
      refine rs_alen hx hb hK (hCa.k0 (rs_S.X hS)) dX4_evaluateAt_72 ?_
      refine lv_istore_n (lv' := [(3, .int (nI n)), (2, .int (kI (rs_ev cf 1 x))), (0, .ref a), (1, .int (kI x))]) hx hb dX4_evaluateAt_73 rfl hl (by decide) rfl (fun ls hl => ?_)
      refine lv_iconst (v := nI 1) hx hb dX4_evaluateAt_74 (by decide) ?_
      refine lv_istore (lv' := [(4, .int (nI 1)), (3, .int (nI n)), (2, .int (kI (rs_ev cf 1 x))), (0, .ref a), (1, .int (kI x))]) hx hb dX4_evaluateAt_75 hl (by decide) rfl (fun ls hl => ?_)
      have loop : ∀ (k : Nat) (i : Nat) (H : Heap) (locs : List Loc) (ls : Array Slot), i + k = n → va_S (rs_W0 rs_no s.heap.size) s.heap H locs → lv_has ls 7 [(0, .ref a), (1, .int (kI x)), (2, .int (kI (rs_ev cf i x))), (3, .int (nI n)), (4, .int (nI i))] → W p l e R s m args below meth c H locs 0 0 Q (F0 m 77 ls []) := by
        intro k
        induction k with
        | zero =>
          intro i H locs ls hk hS hl
          refine lv_iload hx hb dX4_evaluateAt_77 (lv_at hl 4 rfl) ?_
          refine lv_iload_n hx hb dX4_evaluateAt_79 rfl (lv_at hl 3 rfl) ?_
          refine rs_cge (tgt := 113) hx hb dX4_evaluateAt_80 (by decide) (by omega) (by omega) (fun h3 => ?_) (fun h3 => ?_)
          · refine lv_iload_n hx hb dX4_evaluateAt_113 rfl (lv_at hl 2 rfl) ?_
            exact hret _ _ _ _ _ _ _ hS dX4_evaluateAt_114 rfl (by omega) (by omega) (by rw [show n = i by omega])
          · exact absurd h3 (by omega)
        | succ k ih =>
          intro i H locs ls hk hS hl
          refine lv_iload hx hb dX4_evaluateAt_77 (lv_at hl 4 rfl) ?_
          refine lv_iload_n hx hb dX4_evaluateAt_79 rfl (lv_at hl 3 rfl) ?_
          refine rs_cge (tgt := 113) hx hb dX4_evaluateAt_80 (by decide) (by omega) (by omega) (fun h3 => ?_) (fun h3 => ?_)
          · exact absurd h3 (by omega)
          · refine lv_aload_n hx hb dX4_evaluateAt_83 rfl (lv_at hl 0 rfl) ?_
            refine rs_gpf hx hb hown hts hK (hOa.k0 (rs_S.X hS)) dX4_evaluateAt_84 ?_
            refine lv_aload_n hx hb dX4_evaluateAt_87 rfl (lv_at hl 0 rfl) ?_
            refine rs_gpf hx hb hown hts hK (hOa.k0 (rs_S.X hS)) dX4_evaluateAt_88 ?_
            refine lv_iload_n hx hb dX4_evaluateAt_91 rfl (lv_at hl 1 rfl) ?_
            refine lv_iload_n hx hb dX4_evaluateAt_92 rfl (lv_at hl 2 rfl) ?_
            refine rs_cVi (As := [.int (kI x), .int (kI (rs_ev cf i x))]) (rest := [.ref (E.2.2 0)]) hx hb hml hown hts hK (hF.k0 (rs_S.X hS)) hS hA hl.1 (met_X3_multiply E l x (rs_ev cf i x)) vf_X3_multiply q190 ⟨by omega, by omega⟩ (fun _ _ z => z.elim) (fun _ z => z.elim) (rs_F.rc (hF.k0 (rs_S.X hS))) trivial rfl rfl (Nat.le_of_ble_eq_true rfl) ⟨by omega, by omega⟩ dX4_evaluateAt_93 (fun r H locs hX hp hS => ?_)
            subst hp
            refine lv_aload_n hx hb dX4_evaluateAt_96 rfl (lv_at hl 0 rfl) ?_
            refine rs_gp hx hb hown hts hK (hOa.k0 (rs_S.X hS)) dX4_evaluateAt_97 ?_
            refine lv_iload hx hb dX4_evaluateAt_100 (lv_at hl 4 rfl) ?_
            refine rs_iald hx hb hK (hCa.k0 (rs_S.X hS)) (by omega) (by omega) dX4_evaluateAt_102 ?_
            refine rs_cVi (As := [.int (kI (x * rs_ev cf i x)), .int (kI (cf i))]) (rest := []) hx hb hml hown hts hK (hF.k0 (rs_S.X hS)) hS hA hl.1 (met_X3_add E l (x * rs_ev cf i x) (cf i)) vf_X3_add q186 ⟨by omega, by omega⟩ (fun _ _ z => z.elim) (fun _ z => z.elim) (rs_F.rc (hF.k0 (rs_S.X hS))) trivial rfl rfl (Nat.le_of_ble_eq_true rfl) ⟨by omega, by omega⟩ dX4_evaluateAt_103 (fun r H locs hX hp hS => ?_)
            subst hp
            refine rs_top (b := (rs_ev cf (i + 1) x).val) (by rw [rs_ev_s]; congr 1; grind) ?_
            refine lv_istore_n (lv' := [(2, .int (kI (rs_ev cf (i + 1) x))), (0, .ref a), (1, .int (kI x)), (3, .int (nI n)), (4, .int (nI i))]) hx hb dX4_evaluateAt_106 rfl hl (by decide) rfl (fun ls hl => ?_)
            refine lv_iinc (v := nI (i + 1)) (lv' := [(4, .int (nI (i + 1))), (2, .int (kI (rs_ev cf (i + 1) x))), (0, .ref a), (1, .int (kI x)), (3, .int (nI n))]) hx hb dX4_evaluateAt_107 hl (k := 4) rfl (nI_1 _) (by decide) rfl (fun ls hl => ?_)
            refine lv_goto (tgt := 77) hx hb dX4_evaluateAt_110 (by decide) ?_
            exact ih (i + 1) _ _ ls (by omega) hS (lv_sub hl [2, 3, 1, 4, 0] rfl)
      exact loop (n - 1) 1 _ _ ls (by omega) hS (lv_sub hl [3, 4, 2, 1, 0] rfl)
    · have hx1 : x = 1 := Fin.ext h2
      refine lv_iconst (v := nI 0) hx hb dX4_evaluateAt_15 (by decide) ?_
      refine lv_istore_n (lv' := [(2, .int (nI 0)), (0, .ref a), (1, .int (kI x))]) hx hb dX4_evaluateAt_16 rfl hl (by decide) rfl (fun ls hl => ?_)
      refine lv_aload_n hx hb dX4_evaluateAt_17 rfl (lv_at hl 1 rfl) ?_
      refine rs_gp hx hb hown hts hK (hOa.k0 (rs_S.X hS)) dX4_evaluateAt_18 ?_
      refine lv_astore_n (lv' := [(3, .ref b0), (2, .int (nI 0)), (0, .ref a), (1, .int (kI x))]) hx hb dX4_evaluateAt_21 rfl hl (by decide) rfl (fun ls hl => ?_)
      refine lv_aload_n hx hb dX4_evaluateAt_22 rfl (lv_at hl 0 rfl) ?_
      refine rs_alen hx hb hK (hCa.k0 (rs_S.X hS)) dX4_evaluateAt_23 ?_
      refine lv_istore (lv' := [(4, .int (nI n)), (3, .ref b0), (2, .int (nI 0)), (0, .ref a), (1, .int (kI x))]) hx hb dX4_evaluateAt_24 hl (by decide) rfl (fun ls hl => ?_)
      refine lv_iconst (v := nI 0) hx hb dX4_evaluateAt_26 (by decide) ?_
      refine lv_istore (lv' := [(5, .int (nI 0)), (4, .int (nI n)), (3, .ref b0), (2, .int (nI 0)), (0, .ref a), (1, .int (kI x))]) hx hb dX4_evaluateAt_27 hl (by decide) rfl (fun ls hl => ?_)
      have loop : ∀ (k : Nat) (i : Nat) (H : Heap) (locs : List Loc) (ls : Array Slot), i + k = n → va_S (rs_W0 rs_no s.heap.size) s.heap H locs → lv_has ls 7 [(0, .ref a), (1, .int (kI x)), (2, .int (kI (rs_ev cf i x))), (3, .ref b0), (4, .int (nI n)), (5, .int (nI i))] → W p l e R s m args below meth c H locs 0 0 Q (F0 m 29 ls []) := by
        intro k
        induction k with
        | zero =>
          intro i H locs ls hk hS hl
          refine lv_iload hx hb dX4_evaluateAt_29 (lv_at hl 5 rfl) ?_
          refine lv_iload hx hb dX4_evaluateAt_31 (lv_at hl 4 rfl) ?_
          refine rs_cge (tgt := 59) hx hb dX4_evaluateAt_33 (by decide) (by omega) (by omega) (fun h3 => ?_) (fun h3 => ?_)
          · refine lv_iload_n hx hb dX4_evaluateAt_59 rfl (lv_at hl 2 rfl) ?_
            exact hret _ _ _ _ _ _ _ hS dX4_evaluateAt_60 rfl (by omega) (by omega) (by rw [show n = i by omega])
          · exact absurd h3 (by omega)
        | succ k ih =>
          intro i H locs ls hk hS hl
          refine lv_iload hx hb dX4_evaluateAt_29 (lv_at hl 5 rfl) ?_
          refine lv_iload hx hb dX4_evaluateAt_31 (lv_at hl 4 rfl) ?_
          refine rs_cge (tgt := 59) hx hb dX4_evaluateAt_33 (by decide) (by omega) (by omega) (fun h3 => ?_) (fun h3 => ?_)
          · exact absurd h3 (by omega)
          · refine lv_aload_n hx hb dX4_evaluateAt_36 rfl (lv_at hl 3 rfl) ?_
            refine lv_iload hx hb dX4_evaluateAt_37 (lv_at hl 5 rfl) ?_
            refine rs_iald hx hb hK (hCa.k0 (rs_S.X hS)) (by omega) (by omega) dX4_evaluateAt_39 ?_
            refine lv_istore (lv' := [(6, .int (kI (cf i))), (0, .ref a), (1, .int (kI x)), (2, .int (kI (rs_ev cf i x))), (3, .ref b0), (4, .int (nI n)), (5, .int (nI i))]) hx hb dX4_evaluateAt_40 hl (by decide) rfl (fun ls hl => ?_)
            refine lv_aload_n hx hb dX4_evaluateAt_42 rfl (lv_at hl 1 rfl) ?_
            refine rs_gpf hx hb hown hts hK (hOa.k0 (rs_S.X hS)) dX4_evaluateAt_43 ?_
            refine lv_iload_n hx hb dX4_evaluateAt_46 rfl (lv_at hl 3 rfl) ?_
            refine lv_iload hx hb dX4_evaluateAt_47 (lv_at hl 0 rfl) ?_
            refine rs_cVi (As := [.int (kI (rs_ev cf i x)), .int (kI (cf i))]) (rest := []) hx hb hml hown hts hK (hF.k0 (rs_S.X hS)) hS hA hl.1 (met_X3_add E l (rs_ev cf i x) (cf i)) vf_X3_add q186 ⟨by omega, by omega⟩ (fun _ _ z => z.elim) (fun _ z => z.elim) (rs_F.rc (hF.k0 (rs_S.X hS))) trivial rfl rfl (Nat.le_of_ble_eq_true rfl) ⟨by omega, by omega⟩ dX4_evaluateAt_49 (fun r H locs hX hp hS => ?_)
            subst hp
            refine rs_top (b := (rs_ev cf (i + 1) x).val) (by rw [rs_ev_s, hx1]; congr 1; grind) ?_
            refine lv_istore_n (lv' := [(2, .int (kI (rs_ev cf (i + 1) x))), (6, .int (kI (cf i))), (0, .ref a), (1, .int (kI x)), (3, .ref b0), (4, .int (nI n)), (5, .int (nI i))]) hx hb dX4_evaluateAt_52 rfl hl (by decide) rfl (fun ls hl => ?_)
            refine lv_iinc (v := nI (i + 1)) (lv' := [(5, .int (nI (i + 1))), (2, .int (kI (rs_ev cf (i + 1) x))), (6, .int (kI (cf i))), (0, .ref a), (1, .int (kI x)), (3, .ref b0), (4, .int (nI n))]) hx hb dX4_evaluateAt_53 hl (k := 6) rfl (nI_1 _) (by decide) rfl (fun ls hl => ?_)
            refine lv_goto (tgt := 29) hx hb dX4_evaluateAt_56 (by decide) ?_
            exact ih (i + 1) _ _ ls (by omega) hS (lv_sub hl [3, 4, 1, 5, 6, 0] rfl)
      exact loop n 0 _ _ ls (by omega) hS (lv_sub hl [4, 5, 3, 2, 1, 0] rfl)
  · have hx0 : x = 0 := rs_val_0.mp h1
    refine lv_aload_n hx hb dX4_evaluateAt_4 rfl (lv_at hl 0 rfl) ?_
    refine lv_iconst (v := nI 0) hx hb dX4_evaluateAt_5 (by decide) ?_
    refine rs_cVi (As := [.int (nI 0)]) (rest := []) hx hb hml hown hts hK (hF.k0 (rs_S.X hS)) hS hA hl.1 (met_X4_getCoefficient E l a n 0 cf (by omega) hn2) vf_X4_getCoefficient q182 ⟨by omega, by omega⟩ (fun _ _ z => z.elim) (fun _ z => z.elim) (rs_P.rc (hpre0.k0 (rs_S.X hS)) hK) (hpre0.k0 (rs_S.X hS)) rfl rfl (Nat.le_of_ble_eq_true rfl) ⟨by omega, by omega⟩ dX4_evaluateAt_6 (fun r H locs hX hp hS => ?_)
    subst hp
    exact hret _ _ _ _ _ _ _ hS dX4_evaluateAt_9 rfl (by omega) (by omega) (by rw [hx0, show n = (n - 1) + 1 by omega, rs_ev_s, show n - 1 + 1 - 1 - 0 = n - 1 by omega]; congr 1; congr 1; grind)
end
section
/-! ModulusPoly: its arithmetic; ModulusGF.buildMonomial -/
/-- a ModulusPoly in normal form, of at most m numbers, that has the values f -/
def rs_Q (E : rsE) (H : Heap) (r m : Nat) (f : rsK → rsK) : Prop := ∃ (n : Nat) (cf : Nat → rsK), rs_P E H r n cf ∧ rs_N n cf ∧ n ≤ m ∧ ∀ x, rs_ev cf n x = f x
theorem rs_N_z {n : Nat} {cf : Nat → rsK} (h : rs_N n cf) (h0 : cf 0 = 0) : ∀ x, rs_ev cf n x = 0 := by
  have h1 : n = 1 := by
    rcases Nat.lt_or_ge 1 n with q | q
    · exact absurd h0 (h.2 q)
    · have := h.1
      omega
  intro x
  rw [h1, rs_ev_s, rs_ev_0, h0]
  grind
theorem rs_Q_of {E : rsE} {H : Heap} {r n : Nat} {cf : Nat → rsK} {f : rsK → rsK} (hp : ∃ (n2 : Nat) (cf2 : Nat → rsK), rs_P E H r n2 cf2 ∧ rs_N n2 cf2 ∧ n2 ≤ n ∧ ∀ x, rs_ev cf2 n2 x = rs_ev cf n x) (m : Nat) (hm : n ≤ m) (hf : ∀ x, rs_ev cf n x = f x) : rs_Q E H r m f := by
  obtain ⟨n2, cf2, h1, h2, h3, h4⟩ := hp
  exact ⟨n2, cf2, h1, h2, Nat.le_trans h3 hm, fun x => by rw [h4, hf]⟩
theorem rs_add_ev (sc lc : Nat → rsK) (d sn : Nat) (x : rsK) : rs_ev (fun j => (if j < d then 0 else sc (j - d)) + lc j) (d + sn) x = rs_ev sc sn x + rs_ev lc (d + sn) x := by
  have h := rs_ev_ad (fun j => if j < d then 0 else sc (j - d)) lc (d + sn) x
  rw [rs_ev_pad] at h
  exact h
set_option maxHeartbeats 4000000 in
set_option maxRecDepth 100000 in
theorem met_X4_negative (E : rsE) (l : Launch) (a n : Nat) (cf : Nat → rsK) (hn1 : 1 ≤ n) (hn2 : n ≤ 100) : rs_Cr E l yX4_negative cX4_negative 4 (.object "ModulusPoly") ⟨2, 3, 202, 54⟩ rs_no [.ref a] (fun H => rs_P E H a n cf) (fun _ r H => rs_Q E H r n (fun x => -rs_ev cf n x)) := by
  refine rs_goR (by decide) (Nat.le_of_ble_eq_true rfl) (Or.inl ⟨_, rfl⟩) (fun p e R s m args below meth c Q hx hb hml hown hts hnm hK hF hpre hRf hRc hRs hRl hA hS hret ls hl => ?_)
  have hl : lv_has ls 4 [(0, .ref a)] := hl
  obtain ⟨b0, hOa, hCa⟩ := hpre
  refine lv_aload_n hx hb dX4_negative_0 rfl (lv_at hl 0 rfl) ?_
  refine rs_gp hx hb hown hts hK (hOa.k0 (rs_S.X hS)) dX4_negative_1 ?_
  refine rs_alen hx hb hK (hCa.k0 (rs_S.X hS)) dX4_negative_4 ?_
  refine lv_istore_n (lv' := [(1, .int (nI n)), (0, .ref a)]) hx hb dX4_negative_5 rfl hl (by decide) rfl (fun ls hl => ?_)
  refine lv_iload_n hx hb dX4_negative_6 rfl (lv_at hl 0 rfl) ?_
  refine rs_newa (n := n) hx hb hK hts hS (by omega) (by omega) (by omega) dX4_negative_7 (fun q H hq_q hs_q hN hX hz_q hS => ?_)
  refine lv_astore_n (lv' := [(2, .ref q), (1, .int (nI n)), (0, .ref a)]) hx hb dX4_negative_9 rfl hl (by decide) rfl (fun ls hl => ?_)
  refine lv_iconst (v := nI 0) hx hb dX4_negative_10 (by decide) ?_
  refine lv_istore_n (lv' := [(3, .int (nI 0)), (2, .ref q), (1, .int (nI n)), (0, .ref a)]) hx hb dX4_negative_11 rfl hl (by decide) rfl (fun ls hl => ?_)
  have loop : ∀ (k : Nat) (i : Nat) (u : Nat → rsK) (H : Heap) (locs : List Loc) (ls : Array Slot), i + k = n → (∀ j, u j = if j < i then (fun j => (-1) * cf j) j else 0) → rs_A E H q n u → va_S (rs_W0 rs_no s.heap.size) s.heap H locs → lv_has ls 4 [(0, .ref a), (1, .int (nI n)), (2, .ref q), (3, .int (nI i))] → W p l e R s m args below meth c H locs (0 + 1) (0 + n) Q (F0 m 12 ls []) := by
    intro k
    induction k with
    | zero =>
      intro i u H locs ls hk hu hN hS hl
      refine lv_iload_n hx hb dX4_negative_12 rfl (lv_at hl 3 rfl) ?_
      refine lv_iload_n hx hb dX4_negative_13 rfl (lv_at hl 1 rfl) ?_
      refine rs_cge (tgt := 40) hx hb dX4_negative_14 (by decide) (by omega) (by omega) (fun h3 => ?_) (fun h3 => ?_)
      · have hN := rs_A.cg (df := fun j => (-1) * cf j) hN (fun j hj => by rw [hu j, if_pos (by omega)])
        refine rs_newp hx hb hown hts hK hS hA q227 (by omega) (by omega) dX4_negative_40 (fun o H hq_o hs_o hO2 hX hz_o hS => ?_)
        have ne_q_o : q ≠ o := by rw [hq_o]; exact Nat.ne_of_lt (rs_A.lt hN)
        have hN := hN.k0 hX
        refine lv_dup hx hb dX4_negative_43 rfl ?_
        refine lv_aload_n hx hb dX4_negative_44 rfl (lv_at hl 0 rfl) ?_
        refine rs_gpf hx hb hown hts hK (hOa.k0 (rs_S.X hS)) dX4_negative_45 ?_
        refine lv_aload_n hx hb dX4_negative_48 rfl (lv_at hl 2 rfl) ?_
        refine rs_cI (n := 2) (As := [.ref (E.2.2 0), .ref q]) (rest := [.ref o]) hx hb hml hown hts hK (hF.k0 (rs_S.X hS)) hS hA hl.1 (met_X4_init E l o q n (fun j => (-1) * cf j) (by omega) (by omega)) ⟨by decide, by decide, by decide +kernel⟩ rfl q98 q8 q97 q228 ⟨by omega, by omega⟩ (fun q9 _ h9 => by rw [show q9 = o from h9]; exact hA _ hs_o) (fun q9 h9 => by rw [show q9 = o from h9]; exact rs_O.lt hO2) ⟨hO2, hN, ne_q_o.symm⟩ rfl rfl (Nat.le_of_ble_eq_true rfl) ⟨by omega, by omega⟩ dX4_negative_49 (fun H locs hX hp hS => ?_)
        have hN := hN.kept hX (fun z => ne_q_o z)
        exact hret _ _ _ _ _ _ _ hS dX4_negative_52 (by omega) (by omega) (fun _ _ => rs_Q_of hp n (Nat.le_refl n) (fun x => by rw [rs_ev_sm]; grind))
      · exact absurd h3 (by omega)
    | succ k ih =>
      intro i u H locs ls hk hu hN hS hl
      refine lv_iload_n hx hb dX4_negative_12 rfl (lv_at hl 3 rfl) ?_
      refine lv_iload_n hx hb dX4_negative_13 rfl (lv_at hl 1 rfl) ?_
      refine rs_cge (tgt := 40) hx hb dX4_negative_14 (by decide) (by omega) (by omega) (fun h3 => ?_) (fun h3 => ?_)
      · exact absurd h3 (by omega)
      · refine lv_aload_n hx hb dX4_negative_17 rfl (lv_at hl 2 rfl) ?_
        refine lv_iload_n hx hb dX4_negative_18 rfl (lv_at hl 3 rfl) ?_
        refine lv_aload_n hx hb dX4_negative_19 rfl (lv_at hl 0 rfl) ?_
        refine rs_gpf hx hb hown hts hK (hOa.k0 (rs_S.X hS)) dX4_negative_20 ?_
        refine lv_iconst (v := nI 0) hx hb dX4_negative_23 (by decide) ?_
        refine lv_aload_n hx hb dX4_negative_24 rfl (lv_at hl 0 rfl) ?_
        refine rs_gp hx hb hown hts hK (hOa.k0 (rs_S.X hS)) dX4_negative_25 ?_
        refine lv_iload_n hx hb dX4_negative_28 rfl (lv_at hl 3 rfl) ?_
        refine rs_iald hx hb hK (hCa.k0 (rs_S.X hS)) (by omega) (by omega) dX4_negative_29 ?_
        refine rs_cVi (As := [.int (nI 0), .int (kI (cf i))]) (rest := [.int (nI i), .ref q]) hx hb hml hown hts hK (hF.k0 (rs_S.X hS)) hS hA hl.1 (met_X3_subtract E l 0 (cf i)) vf_X3_subtract q290 ⟨by omega, by omega⟩ (fun _ _ z => z.elim) (fun _ z => z.elim) (rs_F.rc (hF.k0 (rs_S.X hS))) trivial rfl rfl (Nat.le_of_ble_eq_true rfl) ⟨by omega, by omega⟩ dX4_negative_30 (fun r H locs hX hp hS => ?_)
        have hN := hN.k0 hX
        subst hp
        refine rs_iast hx hb hK (0 - cf i) hN hS (hA _ hs_q) (by omega) (by omega) dX4_negative_33 (fun H locs hN ho hz hS => ?_)
        refine lv_iinc (v := nI (i + 1)) (lv' := [(3, .int (nI (i + 1))), (0, .ref a), (1, .int (nI n)), (2, .ref q)]) hx hb dX4_negative_34 hl (k := 3) rfl (nI_1 _) (by decide) rfl (fun ls hl => ?_)
        refine lv_goto (tgt := 12) hx hb dX4_negative_37 (by decide) ?_
        exact ih (i + 1) (va_up u i (0 - cf i)) _ _ ls (by omega) (fun j => by
          unfold va_up
          by_cases hji : j = i
          · rw [if_pos hji, if_pos (by omega), hji]; grind
          · rw [if_neg hji, hu j]
            by_cases hjl : j < i
            · rw [if_pos hjl, if_pos (by omega)]
            · rw [if_neg hjl, if_neg (by omega)]) hN hS (lv_sub hl [1, 2, 3, 0] rfl)
  exact loop n 0 (fun _ => 0) _ _ ls (by omega) (fun j => by rw [if_neg (by omega)]) hN hS (lv_sub hl [3, 2, 1, 0] rfl)

set_option maxHeartbeats 4000000 in
set_option maxRecDepth 100000 in
theorem met_X4_multiply_2 (E : rsE) (l : Launch) (a n : Nat) (cf : Nat → rsK) (v : rsK) (hn1 : 1 ≤ n) (hn2 : n ≤ 100) (hNf : rs_N n cf) : rs_Cr E l yX4_multiply_2 cX4_multiply_2 5 (.object "ModulusPoly") ⟨2, 3, 202, 54⟩ rs_no [.ref a, .int (kI v)] (fun H => rs_P E H a n cf) (fun _ r H => rs_Q E H r n (fun x => v * rs_ev cf n x)) := by
  refine rs_goR (by decide) (Nat.le_of_ble_eq_true rfl) (Or.inl ⟨_, rfl⟩) (fun p e R s m args below meth c Q hx hb hml hown hts hnm hK hF hpre hRf hRc hRs hRl hA hS hret ls hl => ?_)
  have hl : lv_has ls 5 [(0, .ref a), (1, .int (kI v))] := hl
  have hpre0 := hpre
  obtain ⟨b0, hOa, hCa⟩ := hpre
  refine lv_iload_n hx hb dX4_multiply_2_0 rfl (lv_at hl 1 rfl) ?_
  refine rs_ifne (tgt := 12) hx hb dX4_multiply_2_1 (by decide) (rs_lt _) (fun h1 => ?_) (fun h1 => ?_)
  · refine lv_iload_n hx hb dX4_multiply_2_12 rfl (lv_at hl 1 rfl) ?_
    refine lv_iconst (v := nI 1) hx hb dX4_multiply_2_13 (by decide) ?_
    refine rs_cne (tgt := 19) hx hb dX4_multiply_2_14 (by decide) (rs_lt _) (by omega) (fun h2 => ?_) (fun h2 => ?_)
    · refine lv_aload_n hx hb dX4_multiply_2_19 rfl (lv_at hl 0 rfl) ?_
      refine rs_gp hx hb hown hts hK (hOa.k0 (rs_S.X hS)) dX4_multiply_2_20 ?_
      refine rs_alen hx hb hK (hCa.k0 (rs_S.X hS)) dX4_multiply_2_23 ?_
      refine lv_istore_n (lv' := [(2, .int (nI n)), (0, .ref a), (1, .int (kI v))]) hx hb dX4_multiply_2_24 rfl hl (by decide) rfl (fun ls hl => ?_)
      refine lv_iload_n hx hb dX4_multiply_2_25 rfl (lv_at hl 0 rfl) ?_
      refine rs_newa (n := n) hx hb hK hts hS (by omega) (by omega) (by omega) dX4_multiply_2_26 (fun q H hq_q hs_q hN hX hz_q hS => ?_)
      refine lv_astore_n (lv' := [(3, .ref q), (2, .int (nI n)), (0, .ref a), (1, .int (kI v))]) hx hb dX4_multiply_2_28 rfl hl (by decide) rfl (fun ls hl => ?_)
      refine lv_iconst (v := nI 0) hx hb dX4_multiply_2_29 (by decide) ?_
      refine lv_istore (lv' := [(4, .int (nI 0)), (3, .ref q), (2, .int (nI n)), (0, .ref a), (1, .int (kI v))]) hx hb dX4_multiply_2_30 hl (by decide) rfl (fun ls hl => ?_)
      have loop : ∀ (k : Nat) (i : Nat) (u : Nat → rsK) (H : Heap) (locs : List Loc) (ls : Array Slot), i + k = n → (∀ j, u j = if j < i then (fun j => v * cf j) j else 0) → rs_A E H q n u → va_S (rs_W0 rs_no s.heap.size) s.heap H locs → lv_has ls 5 [(0, .ref a), (1, .int (kI v)), (2, .int (nI n)), (3, .ref q), (4, .int (nI i))] → W p l e R s m args below meth c H locs (0 + 1) (0 + n) Q (F0 m 32 ls []) := by
        intro k
        induction k with
        | zero =>
          intro i u H locs ls hk hu hN hS hl
          refine lv_iload hx hb dX4_multiply_2_32 (lv_at hl 4 rfl) ?_
          refine lv_iload_n hx hb dX4_multiply_2_34 rfl (lv_at hl 2 rfl) ?_
          refine rs_cge (tgt := 63) hx hb dX4_multiply_2_35 (by decide) (by omega) (by omega) (fun h3 => ?_) (fun h3 => ?_)
          · have hN := rs_A.cg (df := fun j => v * cf j) hN (fun j hj => by rw [hu j, if_pos (by omega)])
            refine rs_newp hx hb hown hts hK hS hA q227 (by omega) (by omega) dX4_multiply_2_63 (fun o H hq_o hs_o hO2 hX hz_o hS => ?_)
            have ne_q_o : q ≠ o := by rw [hq_o]; exact Nat.ne_of_lt (rs_A.lt hN)
            have hN := hN.k0 hX
            refine lv_dup hx hb dX4_multiply_2_66 rfl ?_
            refine lv_aload_n hx hb dX4_multiply_2_67 rfl (lv_at hl 0 rfl) ?_
            refine rs_gpf hx hb hown hts hK (hOa.k0 (rs_S.X hS)) dX4_multiply_2_68 ?_
            refine lv_aload_n hx hb dX4_multiply_2_71 rfl (lv_at hl 3 rfl) ?_
            refine rs_cI (n := 2) (As := [.ref (E.2.2 0), .ref q]) (rest := [.ref o]) hx hb hml hown hts hK (hF.k0 (rs_S.X hS)) hS hA hl.1 (met_X4_init E l o q n (fun j => v * cf j) (by omega) (by omega)) ⟨by decide, by decide, by decide +kernel⟩ rfl q98 q8 q97 q228 ⟨by omega, by omega⟩ (fun q9 _ h9 => by rw [show q9 = o from h9]; exact hA _ hs_o) (fun q9 h9 => by rw [show q9 = o from h9]; exact rs_O.lt hO2) ⟨hO2, hN, ne_q_o.symm⟩ rfl rfl (Nat.le_of_ble_eq_true rfl) ⟨by omega, by omega⟩ dX4_multiply_2_72 (fun H locs hX hp hS => ?_)
            have hN := hN.kept hX (fun z => ne_q_o z)
            exact hret _ _ _ _ _ _ _ hS dX4_multiply_2_75 (by omega) (by omega) (fun _ _ => rs_Q_of hp n (Nat.le_refl n) (fun x => by rw [rs_ev_sm]))
          · exact absurd h3 (by omega)
        | succ k ih =>
          intro i u H locs ls hk hu hN hS hl
          refine lv_iload hx hb dX4_multiply_2_32 (lv_at hl 4 rfl) ?_
          refine lv_iload_n hx hb dX4_multiply_2_34 rfl (lv_at hl 2 rfl) ?_
          refine rs_cge (tgt := 63) hx hb dX4_multiply_2_35 (by decide) (by omega) (by omega) (fun h3 => ?_) (fun h3 => ?_)
          · exact absurd h3 (by omega)
          · refine lv_aload_n hx hb dX4_multiply_2_38 rfl (lv_at hl 3 rfl) ?_
            refine lv_iload hx hb dX4_multiply_2_39 (lv_at hl 4 rfl) ?_
            refine lv_aload_n hx hb dX4_multiply_2_41 rfl (lv_at hl 0 rfl) ?_
            refine rs_gpf hx hb hown hts hK (hOa.k0 (rs_S.X hS)) dX4_multiply_2_42 ?_
            refine lv_aload_n hx hb dX4_multiply_2_45 rfl (lv_at hl 0 rfl) ?_
            refine rs_gp hx hb hown hts hK (hOa.k0 (rs_S.X hS)) dX4_multiply_2_46 ?_
            refine lv_iload hx hb dX4_multiply_2_49 (lv_at hl 4 rfl) ?_
            refine rs_iald hx hb hK (hCa.k0 (rs_S.X hS)) (by omega) (by omega) dX4_multiply_2_51 ?_
            refine lv_iload_n hx hb dX4_multiply_2_52 rfl (lv_at hl 1 rfl) ?_
            refine rs_cVi (As := [.int (kI (cf i)), .int (kI v)]) (rest := [.int (nI i), .ref q]) hx hb hml hown hts hK (hF.k0 (rs_S.X hS)) hS hA hl.1 (met_X3_multiply E l (cf i) v) vf_X3_multiply q190 ⟨by omega, by omega⟩ (fun _ _ z => z.elim) (fun _ z => z.elim) (rs_F.rc (hF.k0 (rs_S.X hS))) trivial rfl rfl (Nat.le_of_ble_eq_true rfl) ⟨by omega, by omega⟩ dX4_multiply_2_53 (fun r H locs hX hp hS => ?_)
            have hN := hN.k0 hX
            subst hp
            refine rs_iast hx hb hK (cf i * v) hN hS (hA _ hs_q) (by omega) (by omega) dX4_multiply_2_56 (fun H locs hN ho hz hS => ?_)
            refine lv_iinc (v := nI (i + 1)) (lv' := [(4, .int (nI (i + 1))), (0, .ref a), (1, .int (kI v)), (2, .int (nI n)), (3, .ref q)]) hx hb dX4_multiply_2_57 hl (k := 4) rfl (nI_1 _) (by decide) rfl (fun ls hl => ?_)
            refine lv_goto (tgt := 32) hx hb dX4_multiply_2_60 (by decide) ?_
            exact ih (i + 1) (va_up u i (cf i * v)) _ _ ls (by omega) (fun j => by
              unfold va_up
              by_cases hji : j = i
              · rw [if_pos hji, if_pos (by omega), hji]; grind
              · rw [if_neg hji, hu j]
                by_cases hjl : j < i
                · rw [if_pos hjl, if_pos (by omega)]
                · rw [if_neg hjl, if_neg (by omega)]) hN hS (lv_sub hl [1, 2, 3, 4, 0] rfl)
      exact loop n 0 (fun _ => 0) _ _ ls (by omega) (fun j => by rw [if_neg (by omega)]) hN hS (lv_sub hl [3, 4, 2, 1, 0] rfl)
    · have hv1 : v = 1 := Fin.ext h2
      refine lv_aload_n hx hb dX4_multiply_2_17 rfl (lv_at hl 0 rfl) ?_
      exact hret _ _ _ _ _ _ _ hS dX4_multiply_2_18 (by omega) (by omega) (fun _ _ => ⟨n, cf, hpre0.k0 (rs_S.X hS), hNf, Nat.le_refl n, fun x => by rw [hv1]; grind⟩)
  · have hv0 : v = 0 := rs_val_0.mp h1
    refine lv_aload_n hx hb dX4_multiply_2_4 rfl (lv_at hl 0 rfl) ?_
    refine rs_gpf hx hb hown hts hK (hOa.k0 (rs_S.X hS)) dX4_multiply_2_5 ?_
    refine rs_cVr (As := []) (rest := []) hx hb hml hown hts hK (hF.k0 (rs_S.X hS)) hS hA hl.1 (met_X3_getZero E l) vf_X3_getZero q223 ⟨by omega, by omega⟩ (fun _ _ z => z.elim) (fun _ z => z.elim) (rs_F.rc (hF.k0 (rs_S.X hS))) trivial rfl rfl (Nat.le_of_ble_eq_true rfl) ⟨by omega, by omega⟩ dX4_multiply_2_8 (fun r t H locs hX hvm hp hS => ?_)
    subst hp
    exact hret _ _ _ _ _ _ _ hS dX4_multiply_2_11 (by omega) (by omega) (fun _ _ => ⟨1, _, rs_F.zero (hF.k0 (rs_S.X hS)), ⟨Nat.le_refl 1, fun z => absurd z (by decide)⟩, hn1, fun x => by rw [rs_ev_z 1 (fun _ _ => rfl), hv0]; grind⟩)

set_option maxHeartbeats 4000000 in
set_option maxRecDepth 100000 in
theorem met_X4_multiplyByMonomial (E : rsE) (l : Launch) (a n d : Nat) (cf : Nat → rsK) (v : rsK) (hn1 : 1 ≤ n) (hn2 : n + d ≤ 100) : rs_Cr E l yX4_multiplyByMonomial cX4_multiplyByMonomial 6 (.object "ModulusPoly") ⟨2, 3, 202, 54⟩ rs_no [.ref a, .int (nI d), .int (kI v)] (fun H => rs_P E H a n cf) (fun _ r H => rs_Q E H r (n + d) (fun x => v * (rs_pw x d * rs_ev cf n x))) := by
  refine rs_goR (by decide) (Nat.le_of_ble_eq_true rfl) (Or.inl ⟨_, rfl⟩) (fun p e R s m args below meth c Q hx hb hml hown hts hnm hK hF hpre hRf hRc hRs hRl hA hS hret ls hl => ?_)
  have hl : lv_has ls 6 [(0, .ref a), (1, .int (nI d)), (2, .int (kI v))] := hl
  obtain ⟨b0, hOa, hCa⟩ := hpre
  refine lv_iload_n hx hb dX4_multiplyByMonomial_0 rfl (lv_at hl 1 rfl) ?_
  refine rs_ifge (tgt := 12) hx hb dX4_multiplyByMonomial_1 (by decide) (by omega) ?_
  refine lv_iload_n hx hb dX4_multiplyByMonomial_12 rfl (lv_at hl 2 rfl) ?_
  refine rs_ifne (tgt := 24) hx hb dX4_multiplyByMonomial_13 (by decide) (rs_lt _) (fun h1 => ?_) (fun h1 => ?_)
  · refine lv_aload_n hx hb dX4_multiplyByMonomial_24 rfl (lv_at hl 0 rfl) ?_
    refine rs_gp hx hb hown hts hK (hOa.k0 (rs_S.X hS)) dX4_multiplyByMonomial_25 ?_
    refine rs_alen hx hb hK (hCa.k0 (rs_S.X hS)) dX4_multiplyByMonomial_28 ?_
    refine lv_istore_n (lv' := [(3, .int (nI n)), (0, .ref a), (1, .int (nI d)), (2, .int (kI v))]) hx hb dX4_multiplyByMonomial_29 rfl hl (by decide) rfl (fun ls hl => ?_)
    refine lv_iload_n hx hb dX4_multiplyByMonomial_30 rfl (lv_at hl 0 rfl) ?_
    refine lv_iload_n hx hb dX4_multiplyByMonomial_31 rfl (lv_at hl 2 rfl) ?_
    refine rs_iadd hx hb dX4_multiplyByMonomial_32 ?_
    refine rs_newa (n := (n + d)) hx hb hK hts hS (by omega) (by omega) (by omega) dX4_multiplyByMonomial_33 (fun q H hq_q hs_q hN hX hz_q hS => ?_)
    refine lv_astore (lv' := [(4, .ref q), (3, .int (nI n)), (0, .ref a), (1, .int (nI d)), (2, .int (kI v))]) hx hb dX4_multiplyByMonomial_35 hl (by decide) rfl (fun ls hl => ?_)
    refine lv_iconst (v := nI 0) hx hb dX4_multiplyByMonomial_37 (by decide) ?_
    refine lv_istore (lv' := [(5, .int (nI 0)), (4, .ref q), (3, .int (nI n)), (0, .ref a), (1, .int (nI d)), (2, .int (kI v))]) hx hb dX4_multiplyByMonomial_38 hl (by decide) rfl (fun ls hl => ?_)
    have loop : ∀ (k : Nat) (i : Nat) (u : Nat → rsK) (H : Heap) (locs : List Loc) (ls : Array Slot), i + k = n → (∀ j, u j = if j < i then (fun j => v * cf j) j else 0) → rs_A E H q (n + d) u → va_S (rs_W0 rs_no s.heap.size) s.heap H locs → lv_has ls 6 [(0, .ref a), (1, .int (nI d)), (2, .int (kI v)), (3, .int (nI n)), (4, .ref q), (5, .int (nI i))] → W p l e R s m args below meth c H locs (0 + 1) (0 + (n + d)) Q (F0 m 40 ls []) := by
      intro k
      induction k with
      | zero =>
        intro i u H locs ls hk hu hN hS hl
        refine lv_iload hx hb dX4_multiplyByMonomial_40 (lv_at hl 5 rfl) ?_
        refine lv_iload_n hx hb dX4_multiplyByMonomial_42 rfl (lv_at hl 3 rfl) ?_
        refine rs_cge (tgt := 72) hx hb dX4_multiplyByMonomial_43 (by decide) (by omega) (by omega) (fun h3 => ?_) (fun h3 => ?_)
        · have hN := rs_A.cg (df := fun j => if j < n then (fun j => v * cf j) j else 0) hN (fun j hj => by rw [hu j, show i = n by omega])
          refine rs_newp hx hb hown hts hK hS hA q227 (by omega) (by omega) dX4_multiplyByMonomial_72 (fun o H hq_o hs_o hO2 hX hz_o hS => ?_)
          have ne_q_o : q ≠ o := by rw [hq_o]; exact Nat.ne_of_lt (rs_A.lt hN)
          have hN := hN.k0 hX
          refine lv_dup hx hb dX4_multiplyByMonomial_75 rfl ?_
          refine lv_aload_n hx hb dX4_multiplyByMonomial_76 rfl (lv_at hl 0 rfl) ?_
          refine rs_gpf hx hb hown hts hK (hOa.k0 (rs_S.X hS)) dX4_multiplyByMonomial_77 ?_
          refine lv_aload hx hb dX4_multiplyByMonomial_80 (lv_at hl 4 rfl) ?_
          refine rs_cI (n := 2) (As := [.ref (E.2.2 0), .ref q]) (rest := [.ref o]) hx hb hml hown hts hK (hF.k0 (rs_S.X hS)) hS hA hl.1 (met_X4_init E l o q (n + d) (fun j => if j < n then (fun j => v * cf j) j else 0) (by omega) (by omega)) ⟨by decide, by decide, by decide +kernel⟩ rfl q98 q8 q97 q228 ⟨by omega, by omega⟩ (fun q9 _ h9 => by rw [show q9 = o from h9]; exact hA _ hs_o) (fun q9 h9 => by rw [show q9 = o from h9]; exact rs_O.lt hO2) ⟨hO2, hN, ne_q_o.symm⟩ rfl rfl (Nat.le_of_ble_eq_true rfl) ⟨by omega, by omega⟩ dX4_multiplyByMonomial_82 (fun H locs hX hp hS => ?_)
          have hN := hN.kept hX (fun z => ne_q_o z)
          exact hret _ _ _ _ _ _ _ hS dX4_multiplyByMonomial_85 (by omega) (by omega) (fun _ _ => rs_Q_of hp (n + d) (Nat.le_refl _) (fun x => by rw [rs_ev_sh (fun j => v * cf j), rs_ev_sm]; grind))
        · exact absurd h3 (by omega)
      | succ k ih =>
        intro i u H locs ls hk hu hN hS hl
        refine lv_iload hx hb dX4_multiplyByMonomial_40 (lv_at hl 5 rfl) ?_
        refine lv_iload_n hx hb dX4_multiplyByMonomial_42 rfl (lv_at hl 3 rfl) ?_
        refine rs_cge (tgt := 72) hx hb dX4_multiplyByMonomial_43 (by decide) (by omega) (by omega) (fun h3 => ?_) (fun h3 => ?_)
        · exact absurd h3 (by omega)
        · refine lv_aload hx hb dX4_multiplyByMonomial_46 (lv_at hl 4 rfl) ?_
          refine lv_iload hx hb dX4_multiplyByMonomial_48 (lv_at hl 5 rfl) ?_
          refine lv_aload_n hx hb dX4_multiplyByMonomial_50 rfl (lv_at hl 0 rfl) ?_
          refine rs_gpf hx hb hown hts hK (hOa.k0 (rs_S.X hS)) dX4_multiplyByMonomial_51 ?_
          refine lv_aload_n hx hb dX4_multiplyByMonomial_54 rfl (lv_at hl 0 rfl) ?_
          refine rs_gp hx hb hown hts hK (hOa.k0 (rs_S.X hS)) dX4_multiplyByMonomial_55 ?_
          refine lv_iload hx hb dX4_multiplyByMonomial_58 (lv_at hl 5 rfl) ?_
          refine rs_iald hx hb hK (hCa.k0 (rs_S.X hS)) (by omega) (by omega) dX4_multiplyByMonomial_60 ?_
          refine lv_iload_n hx hb dX4_multiplyByMonomial_61 rfl (lv_at hl 2 rfl) ?_
          refine rs_cVi (As := [.int (kI (cf i)), .int (kI v)]) (rest := [.int (nI i), .ref q]) hx hb hml hown hts hK (hF.k0 (rs_S.X hS)) hS hA hl.1 (met_X3_multiply E l (cf i) v) vf_X3_multiply q190 ⟨by omega, by omega⟩ (fun _ _ z => z.elim) (fun _ z => z.elim) (rs_F.rc (hF.k0 (rs_S.X hS))) trivial rfl rfl (Nat.le_of_ble_eq_true rfl) ⟨by omega, by omega⟩ dX4_multiplyByMonomial_62 (fun r H locs hX hp hS => ?_)
          have hN := hN.k0 hX
          subst hp
          refine rs_iast hx hb hK (cf i * v) hN hS (hA _ hs_q) (by omega) (by omega) dX4_multiplyByMonomial_65 (fun H locs hN ho hz hS => ?_)
          refine lv_iinc (v := nI (i + 1)) (lv' := [(5, .int (nI (i + 1))), (0, .ref a), (1, .int (nI d)), (2, .int (kI v)), (3, .int (nI n)), (4, .ref q)]) hx hb dX4_multiplyByMonomial_66 hl (k := 5) rfl (nI_1 _) (by decide) rfl (fun ls hl => ?_)
          refine lv_goto (tgt := 40) hx hb dX4_multiplyByMonomial_69 (by decide) ?_
          exact ih (i + 1) (va_up u i (cf i * v)) _ _ ls (by omega) (fun j => by
            unfold va_up
            by_cases hji : j = i
            · rw [if_pos hji, if_pos (by omega), hji]; grind
            · rw [if_neg hji, hu j]
              by_cases hjl : j < i
              · rw [if_pos hjl, if_pos (by omega)]
              · rw [if_neg hjl, if_neg (by omega)]) hN hS (lv_sub hl [1, 2, 3, 4, 5, 0] rfl)
    exact loop n 0 (fun _ => 0) _ _ ls (by omega) (fun j => by rw [if_neg (by omega)]) hN hS (lv_sub hl [3, 4, 5, 2, 1, 0] rfl)
  · have hv0 : v = 0 := rs_val_0.mp h1
    refine lv_aload_n hx hb dX4_multiplyByMonomial_16 rfl (lv_at hl 0 rfl) ?_
    refine rs_gpf hx hb hown hts hK (hOa.k0 (rs_S.X hS)) dX4_multiplyByMonomial_17 ?_
    refine rs_cVr (As := []) (rest := []) hx hb hml hown hts hK (hF.k0 (rs_S.X hS)) hS hA hl.1 (met_X3_getZero E l) vf_X3_getZero q223 ⟨by omega, by omega⟩ (fun _ _ z => z.elim) (fun _ z => z.elim) (rs_F.rc (hF.k0 (rs_S.X hS))) trivial rfl rfl (Nat.le_of_ble_eq_true rfl) ⟨by omega, by omega⟩ dX4_multiplyByMonomial_20 (fun r t H locs hX hvm hp hS => ?_)
    subst hp
    exact hret _ _ _ _ _ _ _ hS dX4_multiplyByMonomial_23 (by omega) (by omega) (fun _ _ => ⟨1, _, rs_F.zero (hF.k0 (rs_S.X hS)), ⟨Nat.le_refl 1, fun z => absurd z (by decide)⟩, by omega, fun x => by rw [rs_ev_z 1 (fun _ _ => rfl), hv0]; grind⟩)

set_option maxHeartbeats 4000000 in
set_option maxRecDepth 100000 in
theorem met_X3_buildMonomial (E : rsE) (l : Launch) (d : Nat) (v : rsK) (hv : v ≠ 0) (hd : d ≤ 90) : rs_Cr E l yX3_buildMonomial cX3_buildMonomial 4 (.object "ModulusPoly") ⟨2, 3, 202, 54⟩ rs_no [.ref (E.2.2 0), .int (nI d), .int (kI v)] (fun _ => True) (fun _ r H => rs_Q E H r (d + 1) (fun x => v * rs_pw x d)) := by
  refine rs_goR (by decide) (Nat.le_of_ble_eq_true rfl) (Or.inl ⟨_, rfl⟩) (fun p e R s m args below meth c Q hx hb hml hown hts hnm hK hF hpre hRf hRc hRs hRl hA hS hret ls hl => ?_)
  have hl : lv_has ls 4 [(0, .ref (E.2.2 0)), (1, .int (nI d)), (2, .int (kI v))] := hl
  refine lv_iload_n hx hb dX3_buildMonomial_0 rfl (lv_at hl 1 rfl) ?_
  refine rs_ifge (tgt := 12) hx hb dX3_buildMonomial_1 (by decide) (by omega) ?_
  refine lv_iload_n hx hb dX3_buildMonomial_12 rfl (lv_at hl 2 rfl) ?_
  refine rs_ifne (tgt := 21) hx hb dX3_buildMonomial_13 (by decide) (rs_lt _) (fun h1 => ?_) (fun h1 => ?_)
  · refine lv_iload_n hx hb dX3_buildMonomial_21 rfl (lv_at hl 1 rfl) ?_
    refine lv_iconst (v := nI 1) hx hb dX3_buildMonomial_22 (by decide) ?_
    refine rs_iadd hx hb dX3_buildMonomial_23 ?_
    refine rs_newa (n := (d + 1)) hx hb hK hts hS (by omega) (by omega) (by omega) dX3_buildMonomial_24 (fun q H hq_q hs_q hN hX hz_q hS => ?_)
    refine lv_astore_n (lv' := [(3, .ref q), (0, .ref (E.2.2 0)), (1, .int (nI d)), (2, .int (kI v))]) hx hb dX3_buildMonomial_26 rfl hl (by decide) rfl (fun ls hl => ?_)
    refine lv_aload_n hx hb dX3_buildMonomial_27 rfl (lv_at hl 0 rfl) ?_
    refine lv_iconst (v := nI 0) hx hb dX3_buildMonomial_28 (by decide) ?_
    refine lv_iload_n hx hb dX3_buildMonomial_29 rfl (lv_at hl 3 rfl) ?_
    refine rs_iast hx hb hK v hN hS (hA _ hs_q) (by omega) (by omega) dX3_buildMonomial_30 (fun H locs hN ho hz hS => ?_)
    refine rs_newp hx hb hown hts hK hS hA q235 (by omega) (by omega) dX3_buildMonomial_31 (fun o H hq_o hs_o hO2 hX hz_o hS => ?_)
    have ne_q_o : q ≠ o := by rw [hq_o]; exact Nat.ne_of_lt (rs_A.lt hN)
    have hN := hN.k0 hX
    refine lv_dup hx hb dX3_buildMonomial_34 rfl ?_
    refine lv_aload_n hx hb dX3_buildMonomial_35 rfl (lv_at hl 1 rfl) ?_
    refine lv_aload_n hx hb dX3_buildMonomial_36 rfl (lv_at hl 0 rfl) ?_
    refine rs_cI (n := 2) (As := [.ref (E.2.2 0), .ref q]) (rest := [.ref o]) hx hb hml hown hts hK (hF.k0 (rs_S.X hS)) hS hA hl.1 (met_X4_init E l o q (d + 1) (va_up (fun _ => 0) 0 v) (by omega) (by omega)) ⟨by decide, by decide, by decide +kernel⟩ rfl q98 q8 q97 q236 ⟨by omega, by omega⟩ (fun q9 _ h9 => by rw [show q9 = o from h9]; exact hA _ hs_o) (fun q9 h9 => by rw [show q9 = o from h9]; exact rs_O.lt hO2) ⟨hO2, hN, ne_q_o.symm⟩ rfl rfl (Nat.le_of_ble_eq_true rfl) ⟨by omega, by omega⟩ dX3_buildMonomial_37 (fun H locs hX hp hS => ?_)
    have hN := hN.kept hX (fun z => ne_q_o z)
    exact hret _ _ _ _ _ _ _ hS dX3_buildMonomial_40 (by omega) (by omega) (fun _ _ => rs_Q_of hp (d + 1) (Nat.le_refl _) (fun x => by rw [rs_ev_front]; show v * rs_pw x d + rs_ev (fun j => va_up (fun _ => 0) 0 v (j + 1)) d x = _; rw [rs_ev_z d (fun j hj => by unfold va_up; rw [if_neg (by omega)])]; grind))
  · exact absurd (rs_val_0.mp h1) hv

set_option maxHeartbeats 4000000 in
set_option maxRecDepth 100000 in
theorem met_X4_add (E : rsE) (l : Launch) (a b n m9 : Nat) (cf df : Nat → rsK) (hn2 : n ≤ 100) (hm2 : m9 ≤ 100) (hNc : rs_N n cf) (hNd : rs_N m9 df) : rs_Cr E l yX4_add cX4_add 7 (.object "ModulusPoly") ⟨2, 3, 202, 54⟩ rs_no [.ref a, .ref b] (fun H => rs_P E H a n cf ∧ rs_P E H b m9 df) (fun _ r H => rs_Q E H r (max n m9) (fun x => rs_ev cf n x + rs_ev df m9 x)) := by
  refine rs_goR (by decide) (Nat.le_of_ble_eq_true rfl) (Or.inl ⟨_, rfl⟩) (fun p e R s m args below meth c Q hx hb hml hown hts hnm hK hF hpre hRf hRc hRs hRl hA hS hret ls hl => ?_)
  have hl : lv_has ls 7 [(0, .ref a), (1, .ref b)] := hl
  obtain ⟨hpa, hpb⟩ := hpre
  have hpa0 := hpa
  have hpb0 := hpb
  have hn1 := hNc.1
  have hm1 := hNd.1
  obtain ⟨b0, hOa, hCa⟩ := hpa
  obtain ⟨b1, hOb, hCb⟩ := hpb
  refine lv_aload_n hx hb dX4_add_0 rfl (lv_at hl 0 rfl) ?_
  refine rs_gpf hx hb hown hts hK (hOa.k0 (rs_S.X hS)) dX4_add_1 ?_
  refine lv_aload_n hx hb dX4_add_4 rfl (lv_at hl 1 rfl) ?_
  refine rs_gpf hx hb hown hts hK (hOb.k0 (rs_S.X hS)) dX4_add_5 ?_
  refine lv_acmp_eq (rx := some (E.2.2 0)) (ry := some (E.2.2 0)) (tgt := 21) hx hb dX4_add_8 (by decide) (fun _ => ?_) (fun h => absurd rfl h)
  refine lv_aload_n hx hb dX4_add_21 rfl (lv_at hl 0 rfl) ?_
  refine rs_cVi (As := []) (rest := []) hx hb hml hown hts hK (hF.k0 (rs_S.X hS)) hS hA hl.1 (met_X4_isZero E l a n cf hn1 hn2) vf_X4_isZero q219 ⟨by omega, by omega⟩ (fun _ _ z => z.elim) (fun _ z => z.elim) (rs_P.rc (hpa0.k0 (rs_S.X hS)) hK) (hpa0.k0 (rs_S.X hS)) rfl rfl (Nat.le_of_ble_eq_true rfl) ⟨by omega, by omega⟩ dX4_add_22 (fun r H locs hX hp hS => ?_)
  rcases hp with ⟨h1, hp⟩ | ⟨h1, hp⟩
  · subst hp
    refine rs_ifeq (tgt := 30) hx hb dX4_add_25 (by decide) (by omega) (fun h2 => ?_) (fun h2 => ?_)
    · exact absurd h2 (by decide)
    · refine lv_aload_n hx hb dX4_add_28 rfl (lv_at hl 1 rfl) ?_
      exact hret _ _ _ _ _ _ _ hS dX4_add_29 (by omega) (by omega) (fun _ _ => ⟨m9, df, hpb0.k0 (rs_S.X hS), hNd, by omega, fun x => by have h9 := rs_N_z hNc h1 x; dsimp only; rw [h9]; grind⟩)
  · subst hp
    refine rs_ifeq (tgt := 30) hx hb dX4_add_25 (by decide) (by omega) (fun h2 => ?_) (fun h2 => ?_)
    · refine lv_aload_n hx hb dX4_add_30 rfl (lv_at hl 1 rfl) ?_
      refine rs_cVi (As := []) (rest := []) hx hb hml hown hts hK (hF.k0 (rs_S.X hS)) hS hA hl.1 (met_X4_isZero E l b m9 df hm1 hm2) vf_X4_isZero q219 ⟨by omega, by omega⟩ (fun _ _ z => z.elim) (fun _ z => z.elim) (rs_P.rc (hpb0.k0 (rs_S.X hS)) hK) (hpb0.k0 (rs_S.X hS)) rfl rfl (Nat.le_of_ble_eq_true rfl) ⟨by omega, by omega⟩ dX4_add_31 (fun r H locs hX hp hS => ?_)
      rcases hp with ⟨h3, hp⟩ | ⟨h3, hp⟩
      · subst hp
        refine rs_ifeq (tgt := 39) hx hb dX4_add_34 (by decide) (by omega) (fun h4 => ?_) (fun h4 => ?_)
        · exact absurd h4 (by decide)
        · refine lv_aload_n hx hb dX4_add_37 rfl (lv_at hl 0 rfl) ?_
          exact hret _ _ _ _ _ _ _ hS dX4_add_38 (by omega) (by omega) (fun _ _ => ⟨n, cf, hpa0.k0 (rs_S.X hS), hNc, by omega, fun x => by have h9 := rs_N_z hNd h3 x; dsimp only; rw [h9]; grind⟩)
      · subst hp
        refine rs_ifeq (tgt := 39) hx hb dX4_add_34 (by decide) (by omega) (fun h4 => ?_) (fun h4 => ?_)
        · have core : ∀ (sa la sn ln : Nat) (sc lc : Nat → rsK) (H : Heap) (locs : List Loc) (ls : Array Slot), rs_A E s.heap sa sn sc → rs_A E s.heap la ln lc → 1 ≤ sn → sn ≤ ln → ln ≤ max n m9 → ln ≤ 100 → (∀ x, rs_ev sc sn x + rs_ev lc ln x = rs_ev cf n x + rs_ev df m9 x) → va_S (rs_W0 rs_no s.heap.size) s.heap H locs → lv_has ls 7 [(0, .ref a), (1, .ref b), (2, .ref sa), (3, .ref la)] → W p l e R s m args below meth c H locs 0 0 Q (F0 m 64 ls []) := by
            intro sa la sn ln sc lc H locs ls hSa hLa hs1 hsl hlm hl9 hev hS hl
            refine lv_aload_n hx hb dX4_add_64 rfl (lv_at hl 3 rfl) ?_
            refine rs_alen hx hb hK (hLa.k0 (rs_S.X hS)) dX4_add_65 ?_
            refine rs_newa (n := ln) hx hb hK hts hS (by omega) (by omega) (by omega) dX4_add_66 (fun q H hq_q hs_q hN hX hz_q hS => ?_)
            refine lv_astore (lv' := [(4, .ref q), (0, .ref a), (1, .ref b), (2, .ref sa), (3, .ref la)]) hx hb dX4_add_68 hl (by decide) rfl (fun ls hl => ?_)
            refine lv_aload_n hx hb dX4_add_70 rfl (lv_at hl 4 rfl) ?_
            refine rs_alen hx hb hK (hLa.k0 (rs_S.X hS)) dX4_add_71 ?_
            refine lv_aload_n hx hb dX4_add_72 rfl (lv_at hl 3 rfl) ?_
            refine rs_alen hx hb hK (hSa.k0 (rs_S.X hS)) dX4_add_73 ?_
            refine rs_isub hx hb dX4_add_74 (by omega) ?_
            refine lv_istore (lv' := [(5, .int (nI (ln - sn))), (4, .ref q), (0, .ref a), (1, .ref b), (2, .ref sa), (3, .ref la)]) hx hb dX4_add_75 hl (by decide) rfl (fun ls hl => ?_)
            refine lv_aload_n hx hb dX4_add_77 rfl (lv_at hl 5 rfl) ?_
            refine lv_iconst (v := nI 0) hx hb dX4_add_78 (by decide) ?_
            refine lv_aload hx hb dX4_add_79 (lv_at hl 1 rfl) ?_
            refine lv_iconst (v := nI 0) hx hb dX4_add_81 (by decide) ?_
            refine lv_iload hx hb dX4_add_82 (lv_at hl 0 rfl) ?_
            refine rs_copy (cf := lc) (df := fun _ => 0) (sp := 0) (dp := 0) (k := ln - sn) (n0 := ln) (n1 := ln) hx hb (hml.trans hl.1.symm) hown hts q164 hK hS (hA _ hs_q) (hLa.k0 (rs_S.X hS)) hN (by omega) (by omega) (by omega) (by omega) (by omega) (by rw [hRl]; exact Nat.le_of_ble_eq_true rfl) dX4_add_84 (fun H locs hN ho hz hS => ?_)
            refine lv_iload hx hb dX4_add_87 (lv_at hl 0 rfl) ?_
            refine lv_istore (lv' := [(6, .int (nI (ln - sn))), (5, .int (nI (ln - sn))), (4, .ref q), (0, .ref a), (1, .ref b), (2, .ref sa), (3, .ref la)]) hx hb dX4_add_89 hl (by decide) rfl (fun ls hl => ?_)
            have loop : ∀ (k : Nat) (i : Nat) (u : Nat → rsK) (H : Heap) (locs : List Loc) (ls : Array Slot), i + k = ln → ln - sn ≤ i → (∀ j, j < i → u j = (fun j => (if j < ln - sn then 0 else sc (j - (ln - sn))) + lc j) j) → rs_A E H q ln u → va_S (rs_W0 rs_no s.heap.size) s.heap H locs → lv_has ls 7 [(0, .ref a), (2, .ref sa), (3, .ref la), (4, .ref q), (5, .int (nI (ln - sn))), (6, .int (nI i))] → W p l e R s m args below meth c H locs (0 + 1) (0 + ln) Q (F0 m 91 ls []) := by
              intro k
              induction k with
              | zero =>
                intro i u H locs ls hk hi hu hN hS hl
                refine lv_iload hx hb dX4_add_91 (lv_at hl 5 rfl) ?_
                refine lv_aload_n hx hb dX4_add_93 rfl (lv_at hl 2 rfl) ?_
                refine rs_alen hx hb hK (hLa.k0 (rs_S.X hS)) dX4_add_94 ?_
                refine rs_cge (tgt := 127) hx hb dX4_add_95 (by decide) (by omega) (by omega) (fun h5 => ?_) (fun h5 => ?_)
                · have hN := rs_A.cg (df := fun j => (if j < ln - sn then 0 else sc (j - (ln - sn))) + lc j) hN (fun j hj => hu j (by omega))
                  refine rs_newp hx hb hown hts hK hS hA q227 (by omega) (by omega) dX4_add_127 (fun o H hq_o hs_o hO2 hX hz_o hS => ?_)
                  have ne_q_o : q ≠ o := by rw [hq_o]; exact Nat.ne_of_lt (rs_A.lt hN)
                  have hN := hN.k0 hX
                  refine lv_dup hx hb dX4_add_130 rfl ?_
                  refine lv_aload_n hx hb dX4_add_131 rfl (lv_at hl 0 rfl) ?_
                  refine rs_gpf hx hb hown hts hK (hOa.k0 (rs_S.X hS)) dX4_add_132 ?_
                  refine lv_aload hx hb dX4_add_135 (lv_at hl 3 rfl) ?_
                  refine rs_cI (n := 2) (As := [.ref (E.2.2 0), .ref q]) (rest := [.ref o]) hx hb hml hown hts hK (hF.k0 (rs_S.X hS)) hS hA hl.1 (met_X4_init E l o q ln (fun j => (if j < ln - sn then 0 else sc (j - (ln - sn))) + lc j) (by omega) (by omega)) ⟨by decide, by decide, by decide +kernel⟩ rfl q98 q8 q97 q228 ⟨by omega, by omega⟩ (fun q9 _ h9 => by rw [show q9 = o from h9]; exact hA _ hs_o) (fun q9 h9 => by rw [show q9 = o from h9]; exact rs_O.lt hO2) ⟨hO2, hN, ne_q_o.symm⟩ rfl rfl (Nat.le_of_ble_eq_true rfl) ⟨by omega, by omega⟩ dX4_add_137 (fun H locs hX hp hS => ?_)
                  have hN := hN.kept hX (fun z => ne_q_o z)
                  exact hret _ _ _ _ _ _ _ hS dX4_add_140 (by omega) (by omega) (fun _ _ => rs_Q_of hp _ hlm (fun x => by rw [← hev x]; have h9 := rs_add_ev sc lc (ln - sn) sn x; rw [show ln - sn + sn = ln by omega] at h9; exact h9))
                · exact absurd h5 (by omega)
              | succ k ih =>
                intro i u H locs ls hk hi hu hN hS hl
                refine lv_iload hx hb dX4_add_91 (lv_at hl 5 rfl) ?_
                refine lv_aload_n hx hb dX4_add_93 rfl (lv_at hl 2 rfl) ?_
                refine rs_alen hx hb hK (hLa.k0 (rs_S.X hS)) dX4_add_94 ?_
                refine rs_cge (tgt := 127) hx hb dX4_add_95 (by decide) (by omega) (by omega) (fun h5 => ?_) (fun h5 => ?_)
                · exact absurd h5 (by omega)
                · refine lv_aload hx hb dX4_add_98 (lv_at hl 3 rfl) ?_
                  refine lv_iload hx hb dX4_add_100 (lv_at hl 5 rfl) ?_
                  refine lv_aload_n hx hb dX4_add_102 rfl (lv_at hl 0 rfl) ?_
                  refine rs_gpf hx hb hown hts hK (hOa.k0 (rs_S.X hS)) dX4_add_103 ?_
                  refine lv_aload_n hx hb dX4_add_106 rfl (lv_at hl 1 rfl) ?_
                  refine lv_iload hx hb dX4_add_107 (lv_at hl 5 rfl) ?_
                  refine lv_iload hx hb dX4_add_109 (lv_at hl 4 rfl) ?_
                  refine rs_isub hx hb dX4_add_111 (by omega) ?_
                  refine rs_iald hx hb hK (hSa.k0 (rs_S.X hS)) (by omega) (by omega) dX4_add_112 ?_
                  refine lv_aload_n hx hb dX4_add_113 rfl (lv_at hl 2 rfl) ?_
                  refine lv_iload hx hb dX4_add_114 (lv_at hl 5 rfl) ?_
                  refine rs_iald hx hb hK (hLa.k0 (rs_S.X hS)) (by omega) (by omega) dX4_add_116 ?_
                  refine rs_cVi (As := [.int (kI (sc (i - (ln - sn)))), .int (kI (lc i))]) (rest := [.int (nI i), .ref q]) hx hb hml hown hts hK (hF.k0 (rs_S.X hS)) hS hA hl.1 (met_X3_add E l (sc (i - (ln - sn))) (lc i)) vf_X3_add q186 ⟨by omega, by omega⟩ (fun _ _ z => z.elim) (fun _ z => z.elim) (rs_F.rc (hF.k0 (rs_S.X hS))) trivial rfl rfl (Nat.le_of_ble_eq_true rfl) ⟨by omega, by omega⟩ dX4_add_117 (fun r H locs hX hp hS => ?_)
                  have hN := hN.k0 hX
                  subst hp
                  refine rs_iast hx hb hK (sc (i - (ln - sn)) + lc i) hN hS (hA _ hs_q) (by omega) (by omega) dX4_add_120 (fun H locs hN ho hz hS => ?_)
                  refine lv_iinc (v := nI (i + 1)) (lv' := [(6, .int (nI (i + 1))), (0, .ref a), (2, .ref sa), (3, .ref la), (4, .ref q), (5, .int (nI (ln - sn)))]) hx hb dX4_add_121 hl (k := 5) rfl (nI_1 _) (by decide) rfl (fun ls hl => ?_)
                  refine lv_goto (tgt := 91) hx hb dX4_add_124 (by decide) ?_
                  exact ih (i + 1) (va_up u i (sc (i - (ln - sn)) + lc i)) _ _ ls (by omega) (by omega) (fun j hj => by
                    unfold va_up
                    by_cases hji : j = i
                    · rw [if_pos hji, hji]; show _ = (if i < ln - sn then 0 else sc (i - (ln - sn))) + lc i; rw [if_neg (by omega)]
                    · rw [if_neg hji]; exact hu j (by omega)) hN hS (lv_sub hl [1, 2, 3, 4, 5, 0] rfl)
            exact loop sn (ln - sn) (va_cpy lc (fun _ => 0) 0 0 (ln - sn)) _ _ ls (by omega) (Nat.le_refl _) (fun j hj => by
              rw [pk_cpy_in (Nat.zero_le _) (by omega)]
              show lc (0 + (j - 0)) = (if j < ln - sn then 0 else sc (j - (ln - sn))) + lc j
              rw [if_pos hj, show 0 + (j - 0) = j by omega]; grind) hN hS (lv_sub hl [3, 5, 6, 2, 1, 0] rfl)
          refine lv_aload_n hx hb dX4_add_39 rfl (lv_at hl 0 rfl) ?_
          refine rs_gp hx hb hown hts hK (hOa.k0 (rs_S.X hS)) dX4_add_40 ?_
          refine lv_astore_n (lv' := [(2, .ref b0), (0, .ref a), (1, .ref b)]) hx hb dX4_add_43 rfl hl (by decide) rfl (fun ls hl => ?_)
          refine lv_aload_n hx hb dX4_add_44 rfl (lv_at hl 2 rfl) ?_
          refine rs_gp hx hb hown hts hK (hOb.k0 (rs_S.X hS)) dX4_add_45 ?_
          refine lv_astore_n (lv' := [(3, .ref b1), (2, .ref b0), (0, .ref a), (1, .ref b)]) hx hb dX4_add_48 rfl hl (by decide) rfl (fun ls hl => ?_)
          refine lv_aload_n hx hb dX4_add_49 rfl (lv_at hl 1 rfl) ?_
          refine rs_alen hx hb hK (hCa.k0 (rs_S.X hS)) dX4_add_50 ?_
          refine lv_aload_n hx hb dX4_add_51 rfl (lv_at hl 0 rfl) ?_
          refine rs_alen hx hb hK (hCb.k0 (rs_S.X hS)) dX4_add_52 ?_
          refine rs_cle (tgt := 64) hx hb dX4_add_53 (by decide) (by omega) (by omega) (fun h5 => ?_) (fun h5 => ?_)
          · exact core b0 b1 n m9 cf df _ _ ls hCa hCb hn1 (by omega) (by omega) (by omega) (fun _ => rfl) hS (lv_sub hl [2, 3, 1, 0] rfl)
          · refine lv_aload_n hx hb dX4_add_56 rfl (lv_at hl 1 rfl) ?_
            refine lv_astore (lv' := [(4, .ref b0), (3, .ref b1), (2, .ref b0), (0, .ref a), (1, .ref b)]) hx hb dX4_add_57 hl (by decide) rfl (fun ls hl => ?_)
            refine lv_aload_n hx hb dX4_add_59 rfl (lv_at hl 1 rfl) ?_
            refine lv_astore_n (lv' := [(2, .ref b1), (4, .ref b0), (3, .ref b1), (0, .ref a), (1, .ref b)]) hx hb dX4_add_60 rfl hl (by decide) rfl (fun ls hl => ?_)
            refine lv_aload hx hb dX4_add_61 (lv_at hl 1 rfl) ?_
            refine lv_astore_n (lv' := [(3, .ref b0), (2, .ref b1), (4, .ref b0), (0, .ref a), (1, .ref b)]) hx hb dX4_add_63 rfl hl (by decide) rfl (fun ls hl => ?_)
            exact core b1 b0 m9 n df cf _ _ ls hCb hCa hm1 (by omega) (by omega) (by omega) (fun _ => by grind) hS (lv_sub hl [3, 4, 1, 0] rfl)
        · exact absurd rfl h4
    · exact absurd rfl h2

set_option maxHeartbeats 4000000 in
set_option maxRecDepth 100000 in
theorem met_X4_subtract (E : rsE) (l : Launch) (a b n m9 : Nat) (cf df : Nat → rsK) (hn2 : n ≤ 100) (hm2 : m9 ≤ 100) (hNc : rs_N n cf) (hNd : rs_N m9 df) : rs_Cr E l yX4_subtract cX4_subtract 2 (.object "ModulusPoly") ⟨3, 6, 404, 80⟩ rs_no [.ref a, .ref b] (fun H => rs_P E H a n cf ∧ rs_P E H b m9 df) (fun _ r H => rs_Q E H r (max n m9) (fun x => rs_ev cf n x - rs_ev df m9 x)) := by
  refine rs_goR (by decide) (Nat.le_of_ble_eq_true rfl) (Or.inl ⟨_, rfl⟩) (fun p e R s m args below meth c Q hx hb hml hown hts hnm hK hF hpre hRf hRc hRs hRl hA hS hret ls hl => ?_)
  have hl : lv_has ls 2 [(0, .ref a), (1, .ref b)] := hl
  obtain ⟨hpa, hpb⟩ := hpre
  have hpa0 := hpa
  have hpb0 := hpb
  have hn1 := hNc.1
  have hm1 := hNd.1
  obtain ⟨b0, hOa, hCa⟩ := hpa
  obtain ⟨b1, hOb, hCb⟩ := hpb
  refine lv_aload_n hx hb dX4_subtract_0 rfl (lv_at hl 0 rfl) ?_
  refine rs_gpf hx hb hown hts hK (hOa.k0 (rs_S.X hS)) dX4_subtract_1 ?_
  refine lv_aload_n hx hb dX4_subtract_4 rfl (lv_at hl 1 rfl) ?_
  refine rs_gpf hx hb hown hts hK (hOb.k0 (rs_S.X hS)) dX4_subtract_5 ?_
  refine lv_acmp_eq (rx := some (E.2.2 0)) (ry := some (E.2.2 0)) (tgt := 21) hx hb dX4_subtract_8 (by decide) (fun _ => ?_) (fun h => absurd rfl h)
  refine lv_aload_n hx hb dX4_subtract_21 rfl (lv_at hl 1 rfl) ?_
  refine rs_cVi (As := []) (rest := []) hx hb hml hown hts hK (hF.k0 (rs_S.X hS)) hS hA hl.1 (met_X4_isZero E l b m9 df hm1 hm2) vf_X4_isZero q219 ⟨by omega, by omega⟩ (fun _ _ z => z.elim) (fun _ z => z.elim) (rs_P.rc (hpb0.k0 (rs_S.X hS)) hK) (hpb0.k0 (rs_S.X hS)) rfl rfl (Nat.le_of_ble_eq_true rfl) ⟨by omega, by omega⟩ dX4_subtract_22 (fun r H locs hX hp hS => ?_)
  rcases hp with ⟨h1, hp⟩ | ⟨h1, hp⟩
  · subst hp
    refine rs_ifeq (tgt := 30) hx hb dX4_subtract_25 (by decide) (by omega) (fun h2 => ?_) (fun h2 => ?_)
    · exact absurd h2 (by decide)
    · refine lv_aload_n hx hb dX4_subtract_28 rfl (lv_at hl 0 rfl) ?_
      exact hret _ _ _ _ _ _ _ hS dX4_subtract_29 (by omega) (by omega) (fun _ _ => ⟨n, cf, hpa0.k0 (rs_S.X hS), hNc, by omega, fun x => by have h9 := rs_N_z hNd h1 x; dsimp only; rw [h9]; grind⟩)
  · subst hp
    refine rs_ifeq (tgt := 30) hx hb dX4_subtract_25 (by decide) (by omega) (fun h2 => ?_) (fun h2 => ?_)
    · refine lv_aload_n hx hb dX4_subtract_30 rfl (lv_at hl 0 rfl) ?_
      refine lv_aload_n hx hb dX4_subtract_31 rfl (lv_at hl 1 rfl) ?_
      refine rs_cVr (As := []) (rest := [.ref a]) hx hb hml hown hts hK (hF.k0 (rs_S.X hS)) hS hA hl.1 (met_X4_negative E l b m9 df hm1 hm2) vf_X4_negative q286 ⟨by omega, by omega⟩ (fun _ _ z => z.elim) (fun _ z => z.elim) (rs_P.rc (hpb0.k0 (rs_S.X hS)) hK) (hpb0.k0 (rs_S.X hS)) rfl rfl (Nat.le_of_ble_eq_true rfl) ⟨by omega, by omega⟩ dX4_subtract_32 (fun r t H locs hX hvm hp hS => ?_)
      obtain ⟨n3, c3, hp3, hN3, hle3, hev3⟩ := hp
      refine rs_cVr (As := [.ref r]) (rest := []) hx hb hml hown hts hK (hF.k0 (rs_S.X hS)) hS hA hl.1 (met_X4_add E l a r n n3 cf c3 hn2 (by omega) hNc hN3) vf_X4_add q291 ⟨by omega, by omega⟩ (fun _ _ z => z.elim) (fun _ z => z.elim) (rs_P.rc (hpa0.k0 (rs_S.X hS)) hK) (⟨hpa0.k0 (rs_S.X hS), hp3⟩) rfl rfl (Nat.le_of_ble_eq_true rfl) ⟨by omega, by omega⟩ dX4_subtract_35 (fun r2 t H locs hX hvm hp hS => ?_)
      obtain ⟨n4, c4, hp4, hN4, hle4, hev4⟩ := hp
      exact hret _ _ _ _ _ _ _ hS dX4_subtract_38 (by omega) (by omega) (fun _ _ => ⟨n4, c4, hp4, hN4, by omega, fun x => by have h8 := hev4 x; have h9 := hev3 x; dsimp only at h8 h9 ⊢; rw [h8, h9]; grind⟩)
    · exact absurd rfl h2
end
section
/-! ModulusPoly.multiply(ModulusPoly) -/
/-- one store of the product's loop -/
theorem rs_mul_step {u cf df : Nat → rsK} {n m i j : Nat} (hi : i < n) (hj : j < m) {x P : rsK} (h : rs_ev u (n + m - 1) x = P + cf i * rs_pw x (n - 1 - i) * (rs_ev df j x * rs_pw x (m - j))) :
    rs_ev (va_up u (i + j) (u (i + j) + cf i * df j)) (n + m - 1) x = P + cf i * rs_pw x (n - 1 - i) * (rs_ev df (j + 1) x * rs_pw x (m - (j + 1))) := by
  have h1 := rs_ev_up u (i + j) (cf i * df j) (n + m - 1) (by omega) x
  have h2 : rs_ev (va_up u (i + j) (u (i + j) + cf i * df j)) (n + m - 1) x = rs_ev u (n + m - 1) x + cf i * df j * rs_pw x (n + m - 1 - 1 - (i + j)) := h1
  have e1 : n + m - 1 - 1 - (i + j) = (n - 1 - i) + (m - (j + 1)) := by omega
  have e2 : m - j = (m - (j + 1)) + 1 := by omega
  rw [h2, h, e1, rs_pw_add, e2, rs_pw_s, rs_ev_s]
  grind
set_option maxHeartbeats 4000000 in
set_option maxRecDepth 100000 in
theorem met_X4_multiply (E : rsE) (l : Launch) (a b n m9 : Nat) (cf df : Nat → rsK) (hn2 : n ≤ 50) (hm2 : m9 ≤ 50) (hNc : rs_N n cf) (hNd : rs_N m9 df) : rs_Cr E l yX4_multiply cX4_multiply 10 (.object "ModulusPoly") ⟨2, 3, 202, 54⟩ rs_no [.ref a, .ref b] (fun H => rs_P E H a n cf ∧ rs_P E H b m9 df) (fun _ r H => rs_Q E H r (n + m9 - 1) (fun x => rs_ev cf n x * rs_ev df m9 x)) := by
  refine rs_goR (by decide) (Nat.le_of_ble_eq_true rfl) (Or.inl ⟨_, rfl⟩) (fun p e R s m args below meth c Q hx hb hml hown hts hnm hK hF hpre hRf hRc hRs hRl hA hS hret ls hl => ?_)
  have hl : lv_has ls 10 [(0, .ref a), (1, .ref b)] := hl
  obtain ⟨hpa, hpb⟩ := hpre
  have hpa0 := hpa
  have hpb0 := hpb
  have hn1 := hNc.1
  have hm1 := hNd.1
  obtain ⟨b0, hOa, hCa⟩ := hpa
  obtain ⟨b1, hOb, hCb⟩ := hpb
  refine lv_aload_n hx hb dX4_multiply_0 rfl (lv_at hl 0 rfl) ?_
  refine rs_gpf hx hb hown hts hK (hOa.k0 (rs_S.X hS)) dX4_multiply_1 ?_
  refine lv_aload_n hx hb dX4_multiply_4 rfl (lv_at hl 1 rfl) ?_
  refine rs_gpf hx hb hown hts hK (hOb.k0 (rs_S.X hS)) dX4_multiply_5 ?_
  refine lv_acmp_eq (rx := some (E.2.2 0)) (ry := some (E.2.2 0)) (tgt := 21) hx hb dX4_multiply_8 (by decide) (fun _ => ?_) (fun h => absurd rfl h)
  refine lv_aload_n hx hb dX4_multiply_21 rfl (lv_at hl 0 rfl) ?_
  refine rs_cVi (As := []) (rest := []) hx hb hml hown hts hK (hF.k0 (rs_S.X hS)) hS hA hl.1 (met_X4_isZero E l a n cf hn1 (by omega)) vf_X4_isZero q219 ⟨by omega, by omega⟩ (fun _ _ z => z.elim) (fun _ z => z.elim) (rs_P.rc (hpa0.k0 (rs_S.X hS)) hK) (hpa0.k0 (rs_S.X hS)) rfl rfl (Nat.le_of_ble_eq_true rfl) ⟨by omega, by omega⟩ dX4_multiply_22 (fun r H locs hX hp hS => ?_)
  rcases hp with ⟨h1, hp⟩ | ⟨h1, hp⟩
  · subst hp
    refine rs_ifne (tgt := 35) hx hb dX4_multiply_25 (by decide) (by omega) (fun h2 => ?_) (fun h2 => ?_)
    · refine lv_aload_n hx hb dX4_multiply_35 rfl (lv_at hl 0 rfl) ?_
      refine rs_gpf hx hb hown hts hK (hOa.k0 (rs_S.X hS)) dX4_multiply_36 ?_
      refine rs_cVr (As := []) (rest := []) hx hb hml hown hts hK (hF.k0 (rs_S.X hS)) hS hA hl.1 (met_X3_getZero E l) vf_X3_getZero q223 ⟨by omega, by omega⟩ (fun _ _ z => z.elim) (fun _ z => z.elim) (rs_F.rc (hF.k0 (rs_S.X hS))) trivial rfl rfl (Nat.le_of_ble_eq_true rfl) ⟨by omega, by omega⟩ dX4_multiply_39 (fun r t H locs hX hvm hp hS => ?_)
      subst hp
      exact hret _ _ _ _ _ _ _ hS dX4_multiply_42 (by omega) (by omega) (fun _ _ => ⟨1, _, rs_F.zero (hF.k0 (rs_S.X hS)), ⟨Nat.le_refl 1, fun z => absurd z (by decide)⟩, by omega, fun x => by have h9 := rs_N_z hNc h1 x; dsimp only; rw [rs_ev_z 1 (fun _ _ => rfl), h9]; grind⟩)
    · exact absurd h2 (by decide)
  · subst hp
    refine rs_ifne (tgt := 35) hx hb dX4_multiply_25 (by decide) (by omega) (fun h2 => ?_) (fun h2 => ?_)
    · exact absurd rfl h2
    · refine lv_aload_n hx hb dX4_multiply_28 rfl (lv_at hl 1 rfl) ?_
      refine rs_cVi (As := []) (rest := []) hx hb hml hown hts hK (hF.k0 (rs_S.X hS)) hS hA hl.1 (met_X4_isZero E l b m9 df hm1 (by omega)) vf_X4_isZero q219 ⟨by omega, by omega⟩ (fun _ _ z => z.elim) (fun _ z => z.elim) (rs_P.rc (hpb0.k0 (rs_S.X hS)) hK) (hpb0.k0 (rs_S.X hS)) rfl rfl (Nat.le_of_ble_eq_true rfl) ⟨by omega, by omega⟩ dX4_multiply_29 (fun r H locs hX hp hS => ?_)
      rcases hp with ⟨h3, hp⟩ | ⟨h3, hp⟩
      · subst hp
        refine rs_ifeq (tgt := 43) hx hb dX4_multiply_32 (by decide) (by omega) (fun h4 => ?_) (fun h4 => ?_)
        · exact absurd h4 (by decide)
        · refine lv_aload_n hx hb dX4_multiply_35 rfl (lv_at hl 0 rfl) ?_
          refine rs_gpf hx hb hown hts hK (hOa.k0 (rs_S.X hS)) dX4_multiply_36 ?_
          refine rs_cVr (As := []) (rest := []) hx hb hml hown hts hK (hF.k0 (rs_S.X hS)) hS hA hl.1 (met_X3_getZero E l) vf_X3_getZero q223 ⟨by omega, by omega⟩ (fun _ _ z => z.elim) (fun _ z => z.elim) (rs_F.rc (hF.k0 (rs_S.X hS))) trivial rfl rfl (Nat.le_of_ble_eq_true rfl) ⟨by omega, by omega⟩ dX4_multiply_39 (fun r t H locs hX hvm hp hS => ?_)
          subst hp
          exact hret _ _ _ _ _ _ _ hS dX4_multiply_42 (by omega) (by omega) (fun _ _ => ⟨1, _, rs_F.zero (hF.k0 (rs_S.X hS)), ⟨Nat.le_refl 1, fun z => absurd z (by decide)⟩, by omega, fun x => by have h9 := rs_N_z hNd h3 x; dsimp only; rw [rs_ev_z 1 (fun _ _ => rfl), h9]; grind⟩)
      · subst hp
        refine rs_ifeq (tgt := 43) hx hb dX4_multiply_32 (by decide) (by omega) (fun h4 => ?_) (fun h4 => ?_)
        · refine lv_aload_n hx hb dX4_multiply_43 rfl (lv_at hl 0 rfl) ?_
          refine rs_gp hx hb hown hts hK (hOa.k0 (rs_S.X hS)) dX4_multiply_44 ?_
          refine lv_astore_n (lv' := [(2, .ref b0), (0, .ref a), (1, .ref b)]) hx hb dX4_multiply_47 rfl hl (by decide) rfl (fun ls hl => ?_)
          refine lv_aload_n hx hb dX4_multiply_48 rfl (lv_at hl 0 rfl) ?_
          refine rs_alen hx hb hK (hCa.k0 (rs_S.X hS)) dX4_multiply_49 ?_
          refine lv_istore_n (lv' := [(3, .int (nI n)), (2, .ref b0), (0, .ref a), (1, .ref b)]) hx hb dX4_multiply_50 rfl hl (by decide) rfl (fun ls hl => ?_)
          refine lv_aload_n hx hb dX4_multiply_51 rfl (lv_at hl 3 rfl) ?_
          refine rs_gp hx hb hown hts hK (hOb.k0 (rs_S.X hS)) dX4_multiply_52 ?_
          refine lv_astore (lv' := [(4, .ref b1), (3, .int (nI n)), (2, .ref b0), (0, .ref a), (1, .ref b)]) hx hb dX4_multiply_55 hl (by decide) rfl (fun ls hl => ?_)
          refine lv_aload hx hb dX4_multiply_57 (lv_at hl 0 rfl) ?_
          refine rs_alen hx hb hK (hCb.k0 (rs_S.X hS)) dX4_multiply_59 ?_
          refine lv_istore (lv' := [(5, .int (nI m9)), (4, .ref b1), (3, .int (nI n)), (2, .ref b0), (0, .ref a), (1, .ref b)]) hx hb dX4_multiply_60 hl (by decide) rfl (fun ls hl => ?_)
          refine lv_iload_n hx hb dX4_multiply_62 rfl (lv_at hl 2 rfl) ?_
          refine lv_iload hx hb dX4_multiply_63 (lv_at hl 0 rfl) ?_
          refine rs_iadd hx hb dX4_multiply_65 ?_
          refine lv_iconst (v := nI 1) hx hb dX4_multiply_66 (by decide) ?_
          refine rs_isub hx hb dX4_multiply_67 (by omega) ?_
          refine rs_top (b := (n + m9 - 1)) rfl ?_
          refine rs_newa (n := (n + m9 - 1)) hx hb hK hts hS (by omega) (by omega) (by omega) dX4_multiply_68 (fun q H hq_q hs_q hN hX hz_q hS => ?_)
          refine lv_astore (lv' := [(6, .ref q), (5, .int (nI m9)), (4, .ref b1), (3, .int (nI n)), (2, .ref b0), (0, .ref a), (1, .ref b)]) hx hb dX4_multiply_70 hl (by decide) rfl (fun ls hl => ?_)
          refine lv_iconst (v := nI 0) hx hb dX4_multiply_72 (by decide) ?_
          refine lv_istore (lv' := [(7, .int (nI 0)), (6, .ref q), (5, .int (nI m9)), (4, .ref b1), (3, .int (nI n)), (2, .ref b0), (0, .ref a), (1, .ref b)]) hx hb dX4_multiply_73 hl (by decide) rfl (fun ls hl => ?_)
          have loop : ∀ (k : Nat) (i : Nat) (u : Nat → rsK) (H : Heap) (locs : List Loc) (ls : Array Slot), i + k = n → (∀ x, rs_ev u (n + m9 - 1) x = rs_ev cf i x * rs_pw x (n - i) * rs_ev df m9 x) → rs_A E H q (n + m9 - 1) u → va_S (rs_W0 rs_no s.heap.size) s.heap H locs → lv_has ls 10 [(0, .ref a), (1, .ref b), (2, .ref b0), (3, .int (nI n)), (4, .ref b1), (5, .int (nI m9)), (6, .ref q), (7, .int (nI i))] → W p l e R s m args below meth c H locs (0 + 1) (0 + (n + m9 - 1)) Q (F0 m 75 ls []) := by
            intro k
            induction k with
            | zero =>
              intro i u H locs ls hk hu hN hS hl
              refine lv_iload hx hb dX4_multiply_75 (lv_at hl 7 rfl) ?_
              refine lv_iload_n hx hb dX4_multiply_77 rfl (lv_at hl 3 rfl) ?_
              refine rs_cge (tgt := 146) hx hb dX4_multiply_78 (by decide) (by omega) (by omega) (fun h5 => ?_) (fun h5 => ?_)
              · refine rs_newp hx hb hown hts hK hS hA q227 (by omega) (by omega) dX4_multiply_146 (fun o H hq_o hs_o hO2 hX hz_o hS => ?_)
                have ne_q_o : q ≠ o := by rw [hq_o]; exact Nat.ne_of_lt (rs_A.lt hN)
                have hN := hN.k0 hX
                refine lv_dup hx hb dX4_multiply_149 rfl ?_
                refine lv_aload_n hx hb dX4_multiply_150 rfl (lv_at hl 0 rfl) ?_
                refine rs_gpf hx hb hown hts hK (hOa.k0 (rs_S.X hS)) dX4_multiply_151 ?_
                refine lv_aload hx hb dX4_multiply_154 (lv_at hl 6 rfl) ?_
                refine rs_cI (n := 2) (As := [.ref (E.2.2 0), .ref q]) (rest := [.ref o]) hx hb hml hown hts hK (hF.k0 (rs_S.X hS)) hS hA hl.1 (met_X4_init E l o q (n + m9 - 1) u (by omega) (by omega)) ⟨by decide, by decide, by decide +kernel⟩ rfl q98 q8 q97 q228 ⟨by omega, by omega⟩ (fun q9 _ h9 => by rw [show q9 = o from h9]; exact hA _ hs_o) (fun q9 h9 => by rw [show q9 = o from h9]; exact rs_O.lt hO2) ⟨hO2, hN, ne_q_o.symm⟩ rfl rfl (Nat.le_of_ble_eq_true rfl) ⟨by omega, by omega⟩ dX4_multiply_156 (fun H locs hX hp hS => ?_)
                have hN := hN.kept hX (fun z => ne_q_o z)
                exact hret _ _ _ _ _ _ _ hS dX4_multiply_159 (by omega) (by omega) (fun _ _ => rs_Q_of hp _ (Nat.le_refl _) (fun x => by rw [hu x, show i = n by omega, Nat.sub_self, rs_pw_0]; grind))
              · exact absurd h5 (by omega)
            | succ k ih =>
              intro i u H locs ls hk hu hN hS hl
              refine lv_iload hx hb dX4_multiply_75 (lv_at hl 7 rfl) ?_
              refine lv_iload_n hx hb dX4_multiply_77 rfl (lv_at hl 3 rfl) ?_
              refine rs_cge (tgt := 146) hx hb dX4_multiply_78 (by decide) (by omega) (by omega) (fun h5 => ?_) (fun h5 => ?_)
              · exact absurd h5 (by omega)
              · refine lv_aload_n hx hb dX4_multiply_81 rfl (lv_at hl 2 rfl) ?_
                refine lv_iload hx hb dX4_multiply_82 (lv_at hl 7 rfl) ?_
                refine rs_iald hx hb hK (hCa.k0 (rs_S.X hS)) (by omega) (by omega) dX4_multiply_84 ?_
                refine lv_istore (lv' := [(8, .int (kI (cf i))), (0, .ref a), (1, .ref b), (2, .ref b0), (3, .int (nI n)), (4, .ref b1), (5, .int (nI m9)), (6, .ref q), (7, .int (nI i))]) hx hb dX4_multiply_85 hl (by decide) rfl (fun ls hl => ?_)
                refine lv_iconst (v := nI 0) hx hb dX4_multiply_87 (by decide) ?_
                refine lv_istore (lv' := [(9, .int (nI 0)), (8, .int (kI (cf i))), (0, .ref a), (1, .ref b), (2, .ref b0), (3, .int (nI n)), (4, .ref b1), (5, .int (nI m9)), (6, .ref q), (7, .int (nI i))]) hx hb dX4_multiply_88 hl (by decide) rfl (fun ls hl => ?_)
                have inner : ∀ (k : Nat) (j : Nat) (u : Nat → rsK) (H : Heap) (locs : List Loc) (ls : Array Slot), j + k = m9 → (∀ x, rs_ev u (n + m9 - 1) x = rs_ev cf i x * rs_pw x (n - i) * rs_ev df m9 x + cf i * rs_pw x (n - 1 - i) * (rs_ev df j x * rs_pw x (m9 - j))) → rs_A E H q (n + m9 - 1) u → va_S (rs_W0 rs_no s.heap.size) s.heap H locs → lv_has ls 10 [(0, .ref a), (1, .ref b), (2, .ref b0), (3, .int (nI n)), (4, .ref b1), (5, .int (nI m9)), (6, .ref q), (7, .int (nI i)), (8, .int (kI (cf i))), (9, .int (nI j))] → W p l e R s m args below meth c H locs (0 + 1) (0 + (n + m9 - 1)) Q (F0 m 90 ls []) := by
                  intro k
                  induction k with
                  | zero =>
                    intro j u H locs ls hk2 hu hN hS hl
                    refine lv_iload hx hb dX4_multiply_90 (lv_at hl 9 rfl) ?_
                    refine lv_iload hx hb dX4_multiply_92 (lv_at hl 5 rfl) ?_
                    refine rs_cge (tgt := 140) hx hb dX4_multiply_94 (by decide) (by omega) (by omega) (fun h6 => ?_) (fun h6 => ?_)
                    · refine lv_iinc (v := nI (i + 1)) (lv' := [(7, .int (nI (i + 1))), (0, .ref a), (1, .ref b), (2, .ref b0), (3, .int (nI n)), (4, .ref b1), (5, .int (nI m9)), (6, .ref q), (8, .int (kI (cf i))), (9, .int (nI j))]) hx hb dX4_multiply_140 hl (k := 7) rfl (nI_1 _) (by decide) rfl (fun ls hl => ?_)
                      refine lv_goto (tgt := 75) hx hb dX4_multiply_143 (by decide) ?_
                      exact ih (i + 1) u _ _ ls (by omega) (fun x => by rw [hu x, show j = m9 by omega, Nat.sub_self, rs_pw_0, rs_ev_s, show n - i = (n - (i + 1)) + 1 by omega, show n - 1 - i = n - (i + 1) by omega, rs_pw_s]; grind) hN hS (lv_sub hl [1, 2, 3, 4, 5, 6, 7, 0] rfl)
                    · exact absurd h6 (by omega)
                  | succ k ih =>
                    intro j u H locs ls hk2 hu hN hS hl
                    refine lv_iload hx hb dX4_multiply_90 (lv_at hl 9 rfl) ?_
                    refine lv_iload hx hb dX4_multiply_92 (lv_at hl 5 rfl) ?_
                    refine rs_cge (tgt := 140) hx hb dX4_multiply_94 (by decide) (by omega) (by omega) (fun h6 => ?_) (fun h6 => ?_)
                    · exact absurd h6 (by omega)
                    · refine lv_aload hx hb dX4_multiply_97 (lv_at hl 6 rfl) ?_
                      refine lv_iload hx hb dX4_multiply_99 (lv_at hl 7 rfl) ?_
                      refine lv_iload hx hb dX4_multiply_101 (lv_at hl 9 rfl) ?_
                      refine rs_iadd hx hb dX4_multiply_103 ?_
                      refine lv_aload_n hx hb dX4_multiply_104 rfl (lv_at hl 0 rfl) ?_
                      refine rs_gpf hx hb hown hts hK (hOa.k0 (rs_S.X hS)) dX4_multiply_105 ?_
                      refine lv_aload hx hb dX4_multiply_108 (lv_at hl 6 rfl) ?_
                      refine lv_iload hx hb dX4_multiply_110 (lv_at hl 7 rfl) ?_
                      refine lv_iload hx hb dX4_multiply_112 (lv_at hl 9 rfl) ?_
                      refine rs_iadd hx hb dX4_multiply_114 ?_
                      refine rs_iald hx hb hK hN (by omega) (by omega) dX4_multiply_115 ?_
                      refine lv_aload_n hx hb dX4_multiply_116 rfl (lv_at hl 0 rfl) ?_
                      refine rs_gpf hx hb hown hts hK (hOa.k0 (rs_S.X hS)) dX4_multiply_117 ?_
                      refine lv_iload hx hb dX4_multiply_120 (lv_at hl 8 rfl) ?_
                      refine lv_aload hx hb dX4_multiply_122 (lv_at hl 4 rfl) ?_
                      refine lv_iload hx hb dX4_multiply_124 (lv_at hl 9 rfl) ?_
                      refine rs_iald hx hb hK (hCb.k0 (rs_S.X hS)) (by omega) (by omega) dX4_multiply_126 ?_
                      refine rs_cVi (As := [.int (kI (cf i)), .int (kI (df j))]) (rest := [.int (kI (u (i + j))), .ref (E.2.2 0), .int (nI (i + j)), .ref q]) hx hb hml hown hts hK (hF.k0 (rs_S.X hS)) hS hA hl.1 (met_X3_multiply E l (cf i) (df j)) vf_X3_multiply q190 ⟨by omega, by omega⟩ (fun _ _ z => z.elim) (fun _ z => z.elim) (rs_F.rc (hF.k0 (rs_S.X hS))) trivial rfl rfl (Nat.le_of_ble_eq_true rfl) ⟨by omega, by omega⟩ dX4_multiply_127 (fun r H locs hX hp hS => ?_)
                      have hN := hN.k0 hX
                      subst hp
                      refine rs_cVi (As := [.int (kI (u (i + j))), .int (kI (cf i * df j))]) (rest := [.int (nI (i + j)), .ref q]) hx hb hml hown hts hK (hF.k0 (rs_S.X hS)) hS hA hl.1 (met_X3_add E l (u (i + j)) (cf i * df j)) vf_X3_add q186 ⟨by omega, by omega⟩ (fun _ _ z => z.elim) (fun _ z => z.elim) (rs_F.rc (hF.k0 (rs_S.X hS))) trivial rfl rfl (Nat.le_of_ble_eq_true rfl) ⟨by omega, by omega⟩ dX4_multiply_130 (fun r H locs hX hp hS => ?_)
                      have hN := hN.k0 hX
                      subst hp
                      refine rs_iast hx hb hK (u (i + j) + cf i * df j) hN hS (hA _ hs_q) (by omega) (by omega) dX4_multiply_133 (fun H locs hN ho hz hS => ?_)
                      refine lv_iinc (v := nI (j + 1)) (lv' := [(9, .int (nI (j + 1))), (0, .ref a), (1, .ref b), (2, .ref b0), (3, .int (nI n)), (4, .ref b1), (5, .int (nI m9)), (6, .ref q), (7, .int (nI i)), (8, .int (kI (cf i)))]) hx hb dX4_multiply_134 hl (k := 9) rfl (nI_1 _) (by decide) rfl (fun ls hl => ?_)
                      refine lv_goto (tgt := 90) hx hb dX4_multiply_137 (by decide) ?_
                      exact ih (j + 1) (va_up u (i + j) (u (i + j) + cf i * df j)) _ _ ls (by omega) (fun x => rs_mul_step (by omega) (by omega) (hu x)) hN hS (lv_sub hl [1, 2, 3, 4, 5, 6, 7, 8, 9, 0] rfl)
                exact inner m9 0 u _ _ ls (by omega) (fun x => by rw [hu x, rs_ev_0]; grind) hN hS (lv_sub hl [2, 3, 4, 5, 6, 7, 8, 9, 1, 0] rfl)
          exact loop n 0 (fun _ => 0) _ _ ls (by omega) (fun x => by rw [rs_ev_z _ (fun _ _ => rfl), rs_ev_0]; grind) hN hS (lv_sub hl [6, 7, 5, 4, 3, 2, 1, 0] rfl)
        · exact absurd rfl h4
end
section
/-! ErrorCorrection: the places and the values of the errors -/
theorem rs_root_is {L : List (rsK × rsK)} {g : rsK} (hg : g ≠ 0) (h : rs_lam L (rs_iv g) = 0) : ∃ q ∈ L, q.1 = g := by
  obtain ⟨q, hq, h1⟩ := rs_lam_root h
  refine ⟨q, hq, ?_⟩
  have h2 : rs_iv g * q.1 = 1 := by rw [← h1]; grind
  rw [rs_iv_uniq h2, rs_iv_iv hg]
theorem rs_all_found {L : List (rsK × rsK)} (hL : rs_ok L) {u : Nat → rsK} {e : Nat} (h : ∀ x, rs_lam L x = 0 → ∃ j, j < e ∧ u j = rs_iv x) : L.length ≤ e := by
  have h1 := rs_ph (l := rs_ri L) (m := (List.range e).map (fun j => rs_iv (u j))) (rs_ri_nd hL) (fun x hx => by
    obtain ⟨j, hj, hu⟩ := h x ((rs_lam_ri hL).mpr hx)
    exact List.mem_map.mpr ⟨j, List.mem_range.mpr hj, by rw [hu, rs_iv_iv (rs_ri_ne x hx)]⟩)
  rw [rs_ri_len, List.length_map, List.length_range] at h1
  exact h1
theorem rs_ok_inj {L : List (rsK × rsK)} (hL : rs_ok L) {a b : rsK × rsK} (ha : a ∈ L) (hb : b ∈ L) (e : a.1 = b.1) : a = b := by
  have h := hL.1
  clear hL
  induction L with
  | nil => cases ha
  | cons q t ih =>
    rw [List.map_cons] at h
    have h1 := List.nodup_cons.mp h
    rcases List.mem_cons.mp ha with e1 | e1 <;> rcases List.mem_cons.mp hb with e2 | e2
    · rw [e1, e2]
    · exact absurd (List.mem_map.mpr ⟨b, e2, by rw [← e, e1]⟩) h1.1
    · exact absurd (List.mem_map.mpr ⟨a, e1, by rw [e, e2]⟩) h1.1
    · exact ih e1 e2 h1.2

set_option maxHeartbeats 4000000 in
set_option maxRecDepth 100000 in
theorem met_X2_findErrorLocations (E : rsE) (l : Launch) (fb ec sg v : Nat) (L : List (rsK × rsK)) (cf : Nat → rsK) (hv : L.length = v) (hL : rs_ok L) (hv8 : v ≤ 50) (hev : ∀ x, rs_ev cf (v + 1) x = rs_lam L x) : rs_Cr E l yX2_findErrorLocations cX2_findErrorLocations 6 (.array .int) ⟨2, 1, 50, 66⟩ rs_no [.ref ec, .ref sg] (fun H => rs_O E H ec 1 [.ref (E.2.2 0)] ∧ rs_P E H sg (v + 1) cf ∧ fb < H.size) (fun _ r H => r ≠ fb ∧ ∃ G : Nat → rsK, rs_A E H r v G ∧ (∀ j, j < v → G j ≠ 0 ∧ ∃ q ∈ L, q.1 = G j) ∧ ∀ a b, a < b → b < v → G a ≠ G b) := by
  refine rs_goR (by decide) (Nat.le_of_ble_eq_true rfl) (Or.inr ⟨_, rfl⟩) (fun p e R s m args below meth c Q hx hb hml hown hts hnm hK hF hpre hRf hRc hRs hRl hA hS hret ls hl => ?_)
  have hl : lv_has ls 6 [(0, .ref ec), (1, .ref sg)] := hl
  obtain ⟨hE, hP, hfb⟩ := hpre
  refine lv_aload_n hx hb dX2_findErrorLocations_0 rfl (lv_at hl 1 rfl) ?_
  refine rs_cVi (As := []) (rest := []) hx hb hml hown hts hK (hF.k0 (rs_S.X hS)) hS hA hl.1 (met_X4_getDegree E l sg (v + 1) cf (by omega)) vf_X4_getDegree q241 ⟨by omega, by omega⟩ (fun _ _ z => z.elim) (fun _ z => z.elim) (rs_P.rc (hP.k0 (rs_S.X hS)) hK) (hP.k0 (rs_S.X hS)) rfl rfl (Nat.le_of_ble_eq_true rfl) ⟨by omega, by omega⟩ dX2_findErrorLocations_1 (fun r H locs hX hp hS => ?_)
  subst hp
  refine rs_top (b := v) (by omega) ?_
  refine lv_istore_n (lv' := [(2, .int (nI v)), (0, .ref ec), (1, .ref sg)]) hx hb dX2_findErrorLocations_4 rfl hl (by decide) rfl (fun ls hl => ?_)
  refine lv_iload_n hx hb dX2_findErrorLocations_5 rfl (lv_at hl 0 rfl) ?_
  refine rs_newa (n := v) hx hb hK hts hS (by omega) (by omega) (by omega) dX2_findErrorLocations_6 (fun q H hq_q hs_q hN hX hz_q hS => ?_)
  refine lv_astore_n (lv' := [(3, .ref q), (2, .int (nI v)), (0, .ref ec), (1, .ref sg)]) hx hb dX2_findErrorLocations_8 rfl hl (by decide) rfl (fun ls hl => ?_)
  refine lv_iconst (v := nI 0) hx hb dX2_findErrorLocations_9 (by decide) ?_
  refine lv_istore (lv' := [(4, .int (nI 0)), (3, .ref q), (2, .int (nI v)), (0, .ref ec), (1, .ref sg)]) hx hb dX2_findErrorLocations_10 hl (by decide) rfl (fun ls hl => ?_)
  refine lv_iconst (v := nI 1) hx hb dX2_findErrorLocations_12 (by decide) ?_
  refine lv_istore (lv' := [(5, .int (nI 1)), (4, .int (nI 0)), (3, .ref q), (2, .int (nI v)), (0, .ref ec), (1, .ref sg)]) hx hb dX2_findErrorLocations_13 hl (by decide) rfl (fun ls hl => ?_)
  have fin : ∀ (i e9 : Nat) (u : Nat → rsK) (H : Heap) (locs : List Loc) (ls : Array Slot), e9 = v → (∀ j, j < e9 → u j ≠ 0 ∧ rs_lam L (rs_iv (u j)) = 0) → (∀ a b, a < b → b < e9 → u a ≠ u b) → rs_A E H q v u → va_S (rs_W0 rs_no s.heap.size) s.heap H locs → lv_has ls 6 [(0, .ref ec), (1, .ref sg), (2, .int (nI v)), (3, .ref q), (4, .int (nI e9)), (5, .int (nI i))] → W p l e R s m args below meth c H locs (0 + 1) (0 + v) Q (F0 m 64 ls []) := by
    intro i e9 u H locs ls he hum hud hN hS hl
    refine lv_iload hx hb dX2_findErrorLocations_64 (lv_at hl 4 rfl) ?_
    refine lv_iload_n hx hb dX2_findErrorLocations_66 rfl (lv_at hl 2 rfl) ?_
    refine rs_ceq (tgt := 74) hx hb dX2_findErrorLocations_67 (by decide) (by omega) (by omega) (fun h4 => ?_) (fun h4 => ?_)
    · refine lv_aload_n hx hb dX2_findErrorLocations_74 rfl (lv_at hl 3 rfl) ?_
      exact hret _ _ _ _ _ _ _ hS dX2_findErrorLocations_75 (by omega) (by omega) (fun _ _ => ⟨(by omega), u, hN, fun j hj => ⟨(hum j (by omega)).1, rs_root_is (hum j (by omega)).1 (hum j (by omega)).2⟩, fun a b hab hb9 => hud a b hab (by omega)⟩)
    · exact absurd he h4
  have loop : ∀ (k : Nat) (i : Nat) (e9 : Nat) (u : Nat → rsK) (H : Heap) (locs : List Loc) (ls : Array Slot), i + k = 929 → 1 ≤ i → e9 ≤ v → (∀ j, j < e9 → u j ≠ 0 ∧ rs_lam L (rs_iv (u j)) = 0 ∧ (rs_iv (u j)).val < i) → (∀ a b, a < b → b < e9 → u a ≠ u b) → (∀ x : rsK, rs_lam L x = 0 → x.val < i → ∃ j, j < e9 ∧ u j = rs_iv x) → rs_A E H q v u → va_S (rs_W0 rs_no s.heap.size) s.heap H locs → lv_has ls 6 [(0, .ref ec), (1, .ref sg), (2, .int (nI v)), (3, .ref q), (4, .int (nI e9)), (5, .int (nI i))] → W p l e R s m args below meth c H locs (0 + 1) (0 + v) Q (F0 m 15 ls []) := by
    intro k
    induction k with
    | zero =>
      intro i e9 u H locs ls hk hi he hum hud hua hN hS hl
      refine lv_iload hx hb dX2_findErrorLocations_15 (lv_at hl 5 rfl) ?_
      refine lv_aload_n hx hb dX2_findErrorLocations_17 rfl (lv_at hl 0 rfl) ?_
      refine rs_ge hx hb hown hts hK (hE.k0 (rs_S.X hS)) dX2_findErrorLocations_18 ?_
      refine rs_cVi (As := []) (rest := [.int (nI i)]) hx hb hml hown hts hK (hF.k0 (rs_S.X hS)) hS hA hl.1 (met_X3_getSize E l) vf_X3_getSize q302 ⟨by omega, by omega⟩ (fun _ _ z => z.elim) (fun _ z => z.elim) (rs_F.rc (hF.k0 (rs_S.X hS))) trivial rfl rfl (Nat.le_of_ble_eq_true rfl) ⟨by omega, by omega⟩ dX2_findErrorLocations_21 (fun r H locs hX hp hS => ?_)
      have hN := hN.k0 hX
      subst hp
      refine rs_cge (tgt := 64) hx hb dX2_findErrorLocations_24 (by decide) (by omega) (by omega) (fun h3 => ?_) (fun h3 => ?_)
      · exact fin i e9 u _ _ ls (Nat.le_antisymm he (by rw [← hv]; exact rs_all_found hL (fun x hx => hua x hx (by have := x.isLt; omega)))) (fun j hj => ⟨(hum j hj).1, (hum j hj).2.1⟩) hud hN hS hl
      · exact absurd h3 (by omega)
    | succ k ih =>
      intro i e9 u H locs ls hk hi he hum hud hua hN hS hl
      refine lv_iload hx hb dX2_findErrorLocations_15 (lv_at hl 5 rfl) ?_
      refine lv_aload_n hx hb dX2_findErrorLocations_17 rfl (lv_at hl 0 rfl) ?_
      refine rs_ge hx hb hown hts hK (hE.k0 (rs_S.X hS)) dX2_findErrorLocations_18 ?_
      refine rs_cVi (As := []) (rest := [.int (nI i)]) hx hb hml hown hts hK (hF.k0 (rs_S.X hS)) hS hA hl.1 (met_X3_getSize E l) vf_X3_getSize q302 ⟨by omega, by omega⟩ (fun _ _ z => z.elim) (fun _ z => z.elim) (rs_F.rc (hF.k0 (rs_S.X hS))) trivial rfl rfl (Nat.le_of_ble_eq_true rfl) ⟨by omega, by omega⟩ dX2_findErrorLocations_21 (fun r H locs hX hp hS => ?_)
      have hN := hN.k0 hX
      subst hp
      refine rs_cge (tgt := 64) hx hb dX2_findErrorLocations_24 (by decide) (by omega) (by omega) (fun h3 => ?_) (fun h3 => ?_)
      · exact absurd h3 (by omega)
      · refine lv_iload hx hb dX2_findErrorLocations_27 (lv_at hl 4 rfl) ?_
        refine lv_iload_n hx hb dX2_findErrorLocations_29 rfl (lv_at hl 2 rfl) ?_
        refine rs_cge (tgt := 64) hx hb dX2_findErrorLocations_30 (by decide) (by omega) (by omega) (fun h4 => ?_) (fun h4 => ?_)
        · exact fin i e9 u _ _ ls (by omega) (fun j hj => ⟨(hum j hj).1, (hum j hj).2.1⟩) hud hN hS hl
        · refine lv_aload_n hx hb dX2_findErrorLocations_33 rfl (lv_at hl 1 rfl) ?_
          refine lv_iload hx hb dX2_findErrorLocations_34 (lv_at hl 5 rfl) ?_
          refine rs_top (b := (rs_n i).val) (rs_n_val (by omega)).symm ?_
          refine rs_cVi (As := [.int (kI (rs_n i))]) (rest := []) hx hb hml hown hts hK (hF.k0 (rs_S.X hS)) hS hA hl.1 (met_X4_evaluateAt E l sg (v + 1) cf (rs_n i) (by omega) (by omega)) vf_X4_evaluateAt q178 ⟨by omega, by omega⟩ (fun _ _ z => z.elim) (fun _ z => z.elim) (rs_P.rc (hP.k0 (rs_S.X hS)) hK) (hP.k0 (rs_S.X hS)) rfl rfl (Nat.le_of_ble_eq_true rfl) ⟨by omega, by omega⟩ dX2_findErrorLocations_36 (fun r H locs hX hp hS => ?_)
          have hN := hN.k0 hX
          subst hp
          refine rs_ifne (tgt := 58) hx hb dX2_findErrorLocations_39 (by decide) (rs_lt _) (fun h5 => ?_) (fun h5 => ?_)
          · have h5 : rs_lam L (rs_n i) ≠ 0 := fun z => h5 (by rw [hev, z]; rfl)
            refine lv_iinc (v := nI (i + 1)) (lv' := [(5, .int (nI (i + 1))), (0, .ref ec), (1, .ref sg), (2, .int (nI v)), (3, .ref q), (4, .int (nI e9))]) hx hb dX2_findErrorLocations_58 hl (k := 5) rfl (nI_1 _) (by decide) rfl (fun ls hl => ?_)
            refine lv_goto (tgt := 15) hx hb dX2_findErrorLocations_61 (by decide) ?_
            exact ih (i + 1) e9 u _ _ ls (by omega) (by omega) he (fun j hj => ⟨(hum j hj).1, (hum j hj).2.1, Nat.lt_succ_of_lt (hum j hj).2.2⟩) hud (fun x hx hxi => by
              rcases Nat.lt_or_ge x.val i with h6 | h6
              · exact hua x hx h6
              · exact absurd hx (by rw [← rs_n_of x, show x.val = i by omega]; exact h5)) hN hS (lv_sub hl [1, 2, 3, 4, 5, 0] rfl)
          · have h5 : rs_lam L (rs_n i) = 0 := by rw [← hev]; exact rs_val_0.mp h5
            have hi0 : rs_n i ≠ 0 := fun z => by
              have h7 := rs_n_val (show i < 929 by omega)
              rw [z] at h7
              have h8 : (0 : rsK).val = 0 := rfl
              omega
            refine lv_aload_n hx hb dX2_findErrorLocations_42 rfl (lv_at hl 3 rfl) ?_
            refine lv_iload hx hb dX2_findErrorLocations_43 (lv_at hl 4 rfl) ?_
            refine lv_aload_n hx hb dX2_findErrorLocations_45 rfl (lv_at hl 0 rfl) ?_
            refine rs_ge hx hb hown hts hK (hE.k0 (rs_S.X hS)) dX2_findErrorLocations_46 ?_
            refine lv_iload hx hb dX2_findErrorLocations_49 (lv_at hl 5 rfl) ?_
            refine rs_top (b := (rs_n i).val) (rs_n_val (by omega)).symm ?_
            refine rs_cVi (As := [.int (kI (rs_n i))]) (rest := [.int (nI e9), .ref q]) hx hb hml hown hts hK (hF.k0 (rs_S.X hS)) hS hA hl.1 (met_X3_inverse E l (rs_n i) hi0) vf_X3_inverse q253 ⟨by omega, by omega⟩ (fun _ _ z => z.elim) (fun _ z => z.elim) (rs_F.rc (hF.k0 (rs_S.X hS))) trivial rfl rfl (Nat.le_of_ble_eq_true rfl) ⟨by omega, by omega⟩ dX2_findErrorLocations_51 (fun r H locs hX hp hS => ?_)
            have hN := hN.k0 hX
            subst hp
            refine rs_iast hx hb hK (rs_iv (rs_n i)) hN hS (hA _ hs_q) (by omega) (by omega) dX2_findErrorLocations_54 (fun H locs hN ho hz hS => ?_)
            refine lv_iinc (v := nI (e9 + 1)) (lv' := [(4, .int (nI (e9 + 1))), (0, .ref ec), (1, .ref sg), (2, .int (nI v)), (3, .ref q), (5, .int (nI i))]) hx hb dX2_findErrorLocations_55 hl (k := 4) rfl (nI_1 _) (by decide) rfl (fun ls hl => ?_)
            refine lv_iinc (v := nI (i + 1)) (lv' := [(5, .int (nI (i + 1))), (4, .int (nI (e9 + 1))), (0, .ref ec), (1, .ref sg), (2, .int (nI v)), (3, .ref q)]) hx hb dX2_findErrorLocations_58 hl (k := 5) rfl (nI_1 _) (by decide) rfl (fun ls hl => ?_)
            refine lv_goto (tgt := 15) hx hb dX2_findErrorLocations_61 (by decide) ?_
            exact ih (i + 1) (e9 + 1) (va_up u e9 (rs_iv (rs_n i))) _ _ ls (by omega) (by omega) (by omega) (fun j hj => by
              unfold va_up
              by_cases hje : j = e9
              · rw [if_pos hje, rs_iv_iv hi0]
                exact ⟨rs_iv_ne _, h5, by rw [rs_n_val (by omega)]; omega⟩
              · rw [if_neg hje]
                have h6 := hum j (by omega)
                exact ⟨h6.1, h6.2.1, by omega⟩) (fun a b hab hb9 => by
              unfold va_up
              rw [if_neg (show ¬ a = e9 by omega)]
              by_cases hbe : b = e9
              · rw [if_pos hbe]
                intro z
                have h6 := (hum a (by omega)).2.2
                rw [z, rs_iv_iv hi0, rs_n_val (by omega)] at h6
                omega
              · rw [if_neg hbe]
                exact hud a b hab (by omega)) (fun x hx hxi => by
              rcases Nat.lt_or_ge x.val i with h6 | h6
              · obtain ⟨j, hj, hu⟩ := hua x hx h6
                exact ⟨j, by omega, by unfold va_up; rw [if_neg (by omega)]; exact hu⟩
              · exact ⟨e9, by omega, by unfold va_up; rw [if_pos rfl]; congr 1; rw [← rs_n_of x]; congr 1; omega⟩) hN hS (lv_sub hl [2, 3, 4, 5, 1, 0] rfl)
  exact loop 928 1 0 (fun _ => 0) _ _ ls (by omega) (Nat.le_refl 1) (by omega) (fun j hj => absurd hj (by omega)) (fun a b _ hb9 => absurd hb9 (by omega)) (fun x hx hxi => by
    exfalso
    have h6 : x = 0 := Fin.ext (show x.val = 0 by omega)
    rw [h6, rs_lam_0] at hx
    exact rs_ne10 hx) hN hS (lv_sub hl [4, 5, 3, 2, 1, 0] rfl)

set_option maxHeartbeats 4000000 in
set_option maxRecDepth 100000 in
theorem met_X2_findErrorMagnitudes (E : rsE) (l : Launch) (fb ec om sg lo v no : Nat) (L : List (rsK × rsK)) (co cf G : Nat → rsK) (hv : L.length = v) (hL : rs_ok L) (hv1 : 1 ≤ v) (hv8 : v ≤ 50) (hno1 : 1 ≤ no) (hno : no ≤ 100) (hev : ∀ x, rs_ev cf (v + 1) x = rs_lam L x) (heo : ∀ x, rs_ev co no x = rs_om rs_w1 L x) (hG : ∀ j, j < v → G j ≠ 0 ∧ ∃ q ∈ L, q.1 = G j) : rs_Cr E l yX2_findErrorMagnitudes cX2_findErrorMagnitudes 13 (.array .int) ⟨2, 4, 252, 66⟩ rs_no [.ref ec, .ref om, .ref sg, .ref lo] (fun H => rs_O E H ec 1 [.ref (E.2.2 0)] ∧ rs_P E H om no co ∧ rs_P E H sg (v + 1) cf ∧ rs_A E H lo v G ∧ fb < H.size) (fun _ r H => r ≠ fb ∧ ∃ M : Nat → rsK, rs_A E H r v M ∧ ∀ j, j < v → ∀ q ∈ L, q.1 = G j → M j = q.2) := by
  refine rs_goR (by decide) (Nat.le_of_ble_eq_true rfl) (Or.inr ⟨_, rfl⟩) (fun p e R s m args below meth c Q hx hb hml hown hts hnm hK hF hpre hRf hRc hRs hRl hA hS hret ls hl => ?_)
  have hl : lv_has ls 13 [(0, .ref ec), (1, .ref om), (2, .ref sg), (3, .ref lo)] := hl
  obtain ⟨hE, hPo, hPs, hLo, hfb⟩ := hpre
  refine lv_aload_n hx hb dX2_findErrorMagnitudes_0 rfl (lv_at hl 2 rfl) ?_
  refine rs_cVi (As := []) (rest := []) hx hb hml hown hts hK (hF.k0 (rs_S.X hS)) hS hA hl.1 (met_X4_getDegree E l sg (v + 1) cf (by omega)) vf_X4_getDegree q241 ⟨by omega, by omega⟩ (fun _ _ z => z.elim) (fun _ z => z.elim) (rs_P.rc (hPs.k0 (rs_S.X hS)) hK) (hPs.k0 (rs_S.X hS)) rfl rfl (Nat.le_of_ble_eq_true rfl) ⟨by omega, by omega⟩ dX2_findErrorMagnitudes_1 (fun r H locs hX hp hS => ?_)
  subst hp
  refine rs_top (b := v) (by omega) ?_
  refine lv_istore (lv' := [(4, .int (nI v)), (0, .ref ec), (1, .ref om), (2, .ref sg), (3, .ref lo)]) hx hb dX2_findErrorMagnitudes_4 hl (by decide) rfl (fun ls hl => ?_)
  refine lv_iload hx hb dX2_findErrorMagnitudes_6 (lv_at hl 0 rfl) ?_
  refine lv_iconst (v := nI 1) hx hb dX2_findErrorMagnitudes_8 (by decide) ?_
  refine rs_cge (tgt := 16) hx hb dX2_findErrorMagnitudes_9 (by decide) (by omega) (by omega) (fun h1 => ?_) (fun h1 => ?_)
  · refine lv_iload hx hb dX2_findErrorMagnitudes_16 (lv_at hl 0 rfl) ?_
    refine rs_newa (n := v) hx hb hK hts hS (by omega) (by omega) (by omega) dX2_findErrorMagnitudes_18 (fun q H hq_q hs_q hN hX hz_q hS => ?_)
    refine lv_astore (lv' := [(5, .ref q), (4, .int (nI v)), (0, .ref ec), (1, .ref om), (2, .ref sg), (3, .ref lo)]) hx hb dX2_findErrorMagnitudes_20 hl (by decide) rfl (fun ls hl => ?_)
    refine lv_iconst (v := nI 1) hx hb dX2_findErrorMagnitudes_22 (by decide) ?_
    refine lv_istore (lv' := [(6, .int (nI 1)), (5, .ref q), (4, .int (nI v)), (0, .ref ec), (1, .ref om), (2, .ref sg), (3, .ref lo)]) hx hb dX2_findErrorMagnitudes_23 hl (by decide) rfl (fun ls hl => ?_)
    have loop : ∀ (k : Nat) (i : Nat) (u : Nat → rsK) (H : Heap) (locs : List Loc) (ls : Array Slot), i + k = v + 1 → 1 ≤ i → (∀ j, v < i + j → j < v → u j = (fun j => rs_n (v - j) * cf j) j) → rs_A E H q v u → va_S (rs_W0 rs_no s.heap.size) s.heap H locs → lv_has ls 13 [(0, .ref ec), (1, .ref om), (2, .ref sg), (3, .ref lo), (4, .int (nI v)), (5, .ref q), (6, .int (nI i))] → W p l e R s m args below meth c H locs (0 + 1) (0 + v) Q (F0 m 25 ls []) := by
      intro k
      induction k with
      | zero =>
        intro i u H locs ls hk hi hu hN hS hl
        refine lv_iload hx hb dX2_findErrorMagnitudes_25 (lv_at hl 6 rfl) ?_
        refine lv_iload hx hb dX2_findErrorMagnitudes_27 (lv_at hl 4 rfl) ?_
        refine rs_cgt (tgt := 61) hx hb dX2_findErrorMagnitudes_29 (by decide) (by omega) (by omega) (fun h3 => ?_) (fun h3 => ?_)
        · have hN := rs_A.cg (df := fun j => rs_n (v - j) * cf j) hN (fun j hj => hu j (by omega) hj)
          refine rs_newp hx hb hown hts hK hS hA q94 (by omega) (by omega) dX2_findErrorMagnitudes_61 (fun o H hq_o hs_o hO2 hX hz_o hS => ?_)
          have ne_q_o : q ≠ o := by rw [hq_o]; exact Nat.ne_of_lt (rs_A.lt hN)
          have hN := hN.k0 hX
          refine lv_dup hx hb dX2_findErrorMagnitudes_64 rfl ?_
          refine lv_aload_n hx hb dX2_findErrorMagnitudes_65 rfl (lv_at hl 0 rfl) ?_
          refine rs_ge hx hb hown hts hK (hE.k0 (rs_S.X hS)) dX2_findErrorMagnitudes_66 ?_
          refine lv_aload hx hb dX2_findErrorMagnitudes_69 (lv_at hl 5 rfl) ?_
          refine rs_cI (n := 2) (As := [.ref (E.2.2 0), .ref q]) (rest := [.ref o]) hx hb hml hown hts hK (hF.k0 (rs_S.X hS)) hS hA hl.1 (met_X4_init E l o q v (fun j => rs_n (v - j) * cf j) (by omega) (by omega)) ⟨by decide, by decide, by decide +kernel⟩ rfl q98 q8 q97 q96 ⟨by omega, by omega⟩ (fun q9 _ h9 => by rw [show q9 = o from h9]; exact hA _ hs_o) (fun q9 h9 => by rw [show q9 = o from h9]; exact rs_O.lt hO2) ⟨hO2, hN, ne_q_o.symm⟩ rfl rfl (Nat.le_of_ble_eq_true rfl) ⟨by omega, by omega⟩ dX2_findErrorMagnitudes_71 (fun H locs hX hp hS => ?_)
          have hN := hN.kept hX (fun z => ne_q_o z)
          obtain ⟨n2, c2, hp2, hN2, hle2, hev2⟩ := hp
          obtain ⟨bo, hOo, hCo⟩ := hp2
          have hn21 := hN2.1
          refine lv_astore (lv' := [(6, .ref o), (0, .ref ec), (1, .ref om), (2, .ref sg), (3, .ref lo), (4, .int (nI v)), (5, .ref q)]) hx hb dX2_findErrorMagnitudes_74 hl (by decide) rfl (fun ls hl => ?_)
          refine lv_aload_n hx hb dX2_findErrorMagnitudes_76 rfl (lv_at hl 4 rfl) ?_
          refine rs_alen hx hb hK (hLo.k0 (rs_S.X hS)) dX2_findErrorMagnitudes_77 ?_
          refine lv_istore (lv' := [(7, .int (nI v)), (6, .ref o), (0, .ref ec), (1, .ref om), (2, .ref sg), (3, .ref lo), (4, .int (nI v)), (5, .ref q)]) hx hb dX2_findErrorMagnitudes_78 hl (by decide) rfl (fun ls hl => ?_)
          refine lv_iload hx hb dX2_findErrorMagnitudes_80 (lv_at hl 0 rfl) ?_
          refine rs_newa (n := v) hx hb hK hts hS (by omega) (by omega) (by omega) dX2_findErrorMagnitudes_82 (fun q8 H hq_q8 hs_q8 hM hX hz_q8 hS => ?_)
          have ne_o_q8 : o ≠ q8 := by rw [hq_q8]; exact Nat.ne_of_lt (rs_O.lt hOo)
          have ne_bo_q8 : bo ≠ q8 := by rw [hq_q8]; exact Nat.ne_of_lt (rs_A.lt hCo)
          have hOo := hOo.k0 hX
          have hCo := hCo.k0 hX
          refine lv_astore (lv' := [(8, .ref q8), (7, .int (nI v)), (6, .ref o), (0, .ref ec), (1, .ref om), (2, .ref sg), (3, .ref lo), (4, .int (nI v)), (5, .ref q)]) hx hb dX2_findErrorMagnitudes_84 hl (by decide) rfl (fun ls hl => ?_)
          refine lv_iconst (v := nI 0) hx hb dX2_findErrorMagnitudes_86 (by decide) ?_
          refine lv_istore (lv' := [(9, .int (nI 0)), (8, .ref q8), (7, .int (nI v)), (6, .ref o), (0, .ref ec), (1, .ref om), (2, .ref sg), (3, .ref lo), (4, .int (nI v)), (5, .ref q)]) hx hb dX2_findErrorMagnitudes_87 hl (by decide) rfl (fun ls hl => ?_)
          have loop2 : ∀ (k : Nat) (j : Nat) (u : Nat → rsK) (H : Heap) (locs : List Loc) (ls : Array Slot), j + k = v → (∀ a, a < j → ∀ q ∈ L, q.1 = G a → u a = q.2) → rs_O E H o 0 [.ref (E.2.2 0), .ref bo] → rs_A E H bo n2 c2 → rs_A E H q8 v u → va_S (rs_W0 rs_no s.heap.size) s.heap H locs → lv_has ls 13 [(0, .ref ec), (1, .ref om), (2, .ref sg), (3, .ref lo), (6, .ref o), (7, .int (nI v)), (8, .ref q8), (9, .int (nI j))] → W p l e R s m args below meth c H locs (0 + 1 + 1 + 1 + 1) (0 + v + 2 + 100 + v) Q (F0 m 89 ls []) := by
            intro k
            induction k with
            | zero =>
              intro j u H locs ls hk2 hw hOo hCo hM hS hl
              refine lv_iload hx hb dX2_findErrorMagnitudes_89 (lv_at hl 7 rfl) ?_
              refine lv_iload hx hb dX2_findErrorMagnitudes_91 (lv_at hl 5 rfl) ?_
              refine rs_cge (tgt := 163) hx hb dX2_findErrorMagnitudes_93 (by decide) (by omega) (by omega) (fun h4 => ?_) (fun h4 => ?_)
              · refine lv_aload hx hb dX2_findErrorMagnitudes_163 (lv_at hl 6 rfl) ?_
                exact hret _ _ _ _ _ _ _ hS dX2_findErrorMagnitudes_165 (by omega) (by omega) (fun _ _ => ⟨(by omega), u, hM, fun a ha => hw a (by omega)⟩)
              · exact absurd h4 (by omega)
            | succ k ih =>
              intro j u H locs ls hk2 hw hOo hCo hM hS hl
              refine lv_iload hx hb dX2_findErrorMagnitudes_89 (lv_at hl 7 rfl) ?_
              refine lv_iload hx hb dX2_findErrorMagnitudes_91 (lv_at hl 5 rfl) ?_
              refine rs_cge (tgt := 163) hx hb dX2_findErrorMagnitudes_93 (by decide) (by omega) (by omega) (fun h4 => ?_) (fun h4 => ?_)
              · exact absurd h4 (by omega)
              · obtain ⟨hG0, q9, hq9, hqG⟩ := hG j (by omega)
                have hx1 : q9.1 * rs_iv (G j) = 1 := by rw [hqG]; exact rs_mul_iv hG0
                obtain ⟨hf1, hf2⟩ := rs_forney hL (by omega) (c := cf) (by rw [hv]; exact hev) hq9 hx1
                rw [hv] at hf1 hf2
                have hdv : ∀ x, rs_ev c2 n2 x = rs_dv cf (v + 1) x := fun x => by rw [hev2, rs_dv_code]
                refine lv_aload_n hx hb dX2_findErrorMagnitudes_96 rfl (lv_at hl 0 rfl) ?_
                refine rs_ge hx hb hown hts hK (hE.k0 (rs_S.X hS)) dX2_findErrorMagnitudes_97 ?_
                refine lv_aload_n hx hb dX2_findErrorMagnitudes_100 rfl (lv_at hl 3 rfl) ?_
                refine lv_iload hx hb dX2_findErrorMagnitudes_101 (lv_at hl 7 rfl) ?_
                refine rs_iald hx hb hK (hLo.k0 (rs_S.X hS)) (by omega) (by omega) dX2_findErrorMagnitudes_103 ?_
                refine rs_cVi (As := [.int (kI (G j))]) (rest := []) hx hb hml hown hts hK (hF.k0 (rs_S.X hS)) hS hA hl.1 (met_X3_inverse E l (G j) hG0) vf_X3_inverse q253 ⟨by omega, by omega⟩ (fun _ _ z => z.elim) (fun _ z => z.elim) (rs_F.rc (hF.k0 (rs_S.X hS))) trivial rfl rfl (Nat.le_of_ble_eq_true rfl) ⟨by omega, by omega⟩ dX2_findErrorMagnitudes_104 (fun r H locs hX hp hS => ?_)
                have hOo := hOo.k0 hX
                have hCo := hCo.k0 hX
                have hM := hM.k0 hX
                subst hp
                refine lv_istore (lv' := [(10, .int (kI (rs_iv (G j)))), (0, .ref ec), (1, .ref om), (2, .ref sg), (3, .ref lo), (6, .ref o), (7, .int (nI v)), (8, .ref q8), (9, .int (nI j))]) hx hb dX2_findErrorMagnitudes_107 hl (by decide) rfl (fun ls hl => ?_)
                refine lv_aload_n hx hb dX2_findErrorMagnitudes_109 rfl (lv_at hl 1 rfl) ?_
                refine rs_ge hx hb hown hts hK (hE.k0 (rs_S.X hS)) dX2_findErrorMagnitudes_110 ?_
                refine lv_iconst (v := nI 0) hx hb dX2_findErrorMagnitudes_113 (by decide) ?_
                refine lv_aload_n hx hb dX2_findErrorMagnitudes_114 rfl (lv_at hl 2 rfl) ?_
                refine lv_iload hx hb dX2_findErrorMagnitudes_115 (lv_at hl 0 rfl) ?_
                refine rs_cVi (As := [.int (kI (rs_iv (G j)))]) (rest := [.int (nI 0), .ref (E.2.2 0)]) hx hb hml hown hts hK (hF.k0 (rs_S.X hS)) hS hA hl.1 (met_X4_evaluateAt E l om no co (rs_iv (G j)) hno1 hno) vf_X4_evaluateAt q178 ⟨by omega, by omega⟩ (fun _ _ z => z.elim) (fun _ z => z.elim) (rs_P.rc (hPo.k0 (rs_S.X hS)) hK) (hPo.k0 (rs_S.X hS)) rfl rfl (Nat.le_of_ble_eq_true rfl) ⟨by omega, by omega⟩ dX2_findErrorMagnitudes_117 (fun r H locs hX hp hS => ?_)
                have hOo := hOo.k0 hX
                have hCo := hCo.k0 hX
                have hM := hM.k0 hX
                subst hp
                refine rs_cVi (As := [.int (nI 0), .int (kI (rs_ev co no (rs_iv (G j))))]) (rest := []) hx hb hml hown hts hK (hF.k0 (rs_S.X hS)) hS hA hl.1 (met_X3_subtract E l 0 (rs_ev co no (rs_iv (G j)))) vf_X3_subtract q198 ⟨by omega, by omega⟩ (fun _ _ z => z.elim) (fun _ z => z.elim) (rs_F.rc (hF.k0 (rs_S.X hS))) trivial rfl rfl (Nat.le_of_ble_eq_true rfl) ⟨by omega, by omega⟩ dX2_findErrorMagnitudes_120 (fun r H locs hX hp hS => ?_)
                have hOo := hOo.k0 hX
                have hCo := hCo.k0 hX
                have hM := hM.k0 hX
                subst hp
                refine lv_istore (lv' := [(11, .int (kI (0 - rs_ev co no (rs_iv (G j))))), (10, .int (kI (rs_iv (G j)))), (0, .ref ec), (1, .ref om), (2, .ref sg), (3, .ref lo), (6, .ref o), (7, .int (nI v)), (8, .ref q8), (9, .int (nI j))]) hx hb dX2_findErrorMagnitudes_123 hl (by decide) rfl (fun ls hl => ?_)
                refine lv_aload_n hx hb dX2_findErrorMagnitudes_125 rfl (lv_at hl 2 rfl) ?_
                refine rs_ge hx hb hown hts hK (hE.k0 (rs_S.X hS)) dX2_findErrorMagnitudes_126 ?_
                refine lv_aload hx hb dX2_findErrorMagnitudes_129 (lv_at hl 6 rfl) ?_
                refine lv_iload hx hb dX2_findErrorMagnitudes_131 (lv_at hl 1 rfl) ?_
                refine rs_cVi (As := [.int (kI (rs_iv (G j)))]) (rest := [.ref (E.2.2 0)]) hx hb hml hown hts hK (hF.k0 (rs_S.X hS)) hS hA hl.1 (met_X4_evaluateAt E l o n2 c2 (rs_iv (G j)) hn21 (by omega)) vf_X4_evaluateAt q178 ⟨by omega, by omega⟩ (fun _ _ z => z.elim) (fun _ z => z.elim) (rs_O.rc hOo hK rfl) (⟨bo, hOo, hCo⟩) rfl rfl (Nat.le_of_ble_eq_true rfl) ⟨by omega, by omega⟩ dX2_findErrorMagnitudes_133 (fun r H locs hX hp hS => ?_)
                have hOo := hOo.k0 hX
                have hCo := hCo.k0 hX
                have hM := hM.k0 hX
                subst hp
                refine rs_cVi (As := [.int (kI (rs_ev c2 n2 (rs_iv (G j))))]) (rest := []) hx hb hml hown hts hK (hF.k0 (rs_S.X hS)) hS hA hl.1 (met_X3_inverse E l (rs_ev c2 n2 (rs_iv (G j))) (by rw [hdv]; exact hf1)) vf_X3_inverse q253 ⟨by omega, by omega⟩ (fun _ _ z => z.elim) (fun _ z => z.elim) (rs_F.rc (hF.k0 (rs_S.X hS))) trivial rfl rfl (Nat.le_of_ble_eq_true rfl) ⟨by omega, by omega⟩ dX2_findErrorMagnitudes_136 (fun r H locs hX hp hS => ?_)
                have hOo := hOo.k0 hX
                have hCo := hCo.k0 hX
                have hM := hM.k0 hX
                subst hp
                refine lv_istore (lv' := [(12, .int (kI (rs_iv (rs_ev c2 n2 (rs_iv (G j)))))), (11, .int (kI (0 - rs_ev co no (rs_iv (G j))))), (10, .int (kI (rs_iv (G j)))), (0, .ref ec), (1, .ref om), (2, .ref sg), (3, .ref lo), (6, .ref o), (7, .int (nI v)), (8, .ref q8), (9, .int (nI j))]) hx hb dX2_findErrorMagnitudes_139 hl (by decide) rfl (fun ls hl => ?_)
                refine lv_aload hx hb dX2_findErrorMagnitudes_141 (lv_at hl 9 rfl) ?_
                refine lv_iload hx hb dX2_findErrorMagnitudes_143 (lv_at hl 10 rfl) ?_
                refine lv_aload_n hx hb dX2_findErrorMagnitudes_145 rfl (lv_at hl 3 rfl) ?_
                refine rs_ge hx hb hown hts hK (hE.k0 (rs_S.X hS)) dX2_findErrorMagnitudes_146 ?_
                refine lv_iload hx hb dX2_findErrorMagnitudes_149 (lv_at hl 1 rfl) ?_
                refine lv_iload hx hb dX2_findErrorMagnitudes_151 (lv_at hl 0 rfl) ?_
                refine rs_cVi (As := [.int (kI (0 - rs_ev co no (rs_iv (G j)))), .int (kI (rs_iv (rs_ev c2 n2 (rs_iv (G j)))))]) (rest := [.int (nI j), .ref q8]) hx hb hml hown hts hK (hF.k0 (rs_S.X hS)) hS hA hl.1 (met_X3_multiply E l (0 - rs_ev co no (rs_iv (G j))) (rs_iv (rs_ev c2 n2 (rs_iv (G j))))) vf_X3_multiply q273 ⟨by omega, by omega⟩ (fun _ _ z => z.elim) (fun _ z => z.elim) (rs_F.rc (hF.k0 (rs_S.X hS))) trivial rfl rfl (Nat.le_of_ble_eq_true rfl) ⟨by omega, by omega⟩ dX2_findErrorMagnitudes_153 (fun r H locs hX hp hS => ?_)
                have hOo := hOo.k0 hX
                have hCo := hCo.k0 hX
                have hM := hM.k0 hX
                subst hp
                refine rs_iast hx hb hK ((0 - rs_ev co no (rs_iv (G j))) * rs_iv (rs_ev c2 n2 (rs_iv (G j)))) hM hS (hA _ hs_q8) (by omega) (by omega) dX2_findErrorMagnitudes_156 (fun H locs hM ho hz hS => ?_)
                have hOo := hOo.st ho ne_o_q8
                have hCo := hCo.st ho ne_bo_q8
                refine lv_iinc (v := nI (j + 1)) (lv' := [(9, .int (nI (j + 1))), (12, .int (kI (rs_iv (rs_ev c2 n2 (rs_iv (G j)))))), (11, .int (kI (0 - rs_ev co no (rs_iv (G j))))), (10, .int (kI (rs_iv (G j)))), (0, .ref ec), (1, .ref om), (2, .ref sg), (3, .ref lo), (6, .ref o), (7, .int (nI v)), (8, .ref q8)]) hx hb dX2_findErrorMagnitudes_157 hl (k := 10) rfl (nI_1 _) (by decide) rfl (fun ls hl => ?_)
                refine lv_goto (tgt := 89) hx hb dX2_findErrorMagnitudes_160 (by decide) ?_
                exact ih (j + 1) (va_up u j ((0 - rs_ev co no (rs_iv (G j))) * rs_iv (rs_ev c2 n2 (rs_iv (G j))))) _ _ ls (by omega) (fun a ha q hq hqa => by
                  unfold va_up
                  by_cases haj : a = j
                  · rw [if_pos haj, heo, hdv, hf2]
                    have h7 : q = q9 := rs_ok_inj hL hq hq9 (by rw [hqa, hqG, haj])
                    rw [h7]
                  · rw [if_neg haj]
                    exact hw a (by omega) q hq hqa) hOo hCo hM hS (lv_sub hl [4, 5, 6, 7, 8, 9, 10, 0] rfl)
          exact loop2 v 0 (fun _ => 0) _ _ ls (by omega) (fun a ha => absurd ha (by omega)) hOo hCo hM hS (lv_sub hl [4, 5, 6, 7, 3, 2, 1, 0] rfl)
        · exact absurd h3 (by omega)
      | succ k ih =>
        intro i u H locs ls hk hi hu hN hS hl
        refine lv_iload hx hb dX2_findErrorMagnitudes_25 (lv_at hl 6 rfl) ?_
        refine lv_iload hx hb dX2_findErrorMagnitudes_27 (lv_at hl 4 rfl) ?_
        refine rs_cgt (tgt := 61) hx hb dX2_findErrorMagnitudes_29 (by decide) (by omega) (by omega) (fun h3 => ?_) (fun h3 => ?_)
        · exact absurd h3 (by omega)
        · refine lv_aload hx hb dX2_findErrorMagnitudes_32 (lv_at hl 5 rfl) ?_
          refine lv_iload hx hb dX2_findErrorMagnitudes_34 (lv_at hl 4 rfl) ?_
          refine lv_iload hx hb dX2_findErrorMagnitudes_36 (lv_at hl 6 rfl) ?_
          refine rs_isub hx hb dX2_findErrorMagnitudes_38 (by omega) ?_
          refine lv_aload_n hx hb dX2_findErrorMagnitudes_39 rfl (lv_at hl 0 rfl) ?_
          refine rs_ge hx hb hown hts hK (hE.k0 (rs_S.X hS)) dX2_findErrorMagnitudes_40 ?_
          refine lv_iload hx hb dX2_findErrorMagnitudes_43 (lv_at hl 6 rfl) ?_
          refine rs_top (b := (rs_n i).val) (rs_n_val (by omega)).symm ?_
          refine lv_aload_n hx hb dX2_findErrorMagnitudes_45 rfl (lv_at hl 2 rfl) ?_
          refine lv_iload hx hb dX2_findErrorMagnitudes_46 (lv_at hl 6 rfl) ?_
          refine rs_cVi (As := [.int (nI i)]) (rest := [.int (kI (rs_n i)), .ref (E.2.2 0), .int (nI (v - i)), .ref q]) hx hb hml hown hts hK (hF.k0 (rs_S.X hS)) hS hA hl.1 (met_X4_getCoefficient E l sg (v + 1) i cf (by omega) (by omega)) vf_X4_getCoefficient q252 ⟨by omega, by omega⟩ (fun _ _ z => z.elim) (fun _ z => z.elim) (rs_P.rc (hPs.k0 (rs_S.X hS)) hK) (hPs.k0 (rs_S.X hS)) rfl rfl (Nat.le_of_ble_eq_true rfl) ⟨by omega, by omega⟩ dX2_findErrorMagnitudes_48 (fun r H locs hX hp hS => ?_)
          have hN := hN.k0 hX
          subst hp
          refine rs_cVi (As := [.int (kI (rs_n i)), .int (kI (cf (v + 1 - 1 - i)))]) (rest := [.int (nI (v - i)), .ref q]) hx hb hml hown hts hK (hF.k0 (rs_S.X hS)) hS hA hl.1 (met_X3_multiply E l (rs_n i) (cf (v + 1 - 1 - i))) vf_X3_multiply q273 ⟨by omega, by omega⟩ (fun _ _ z => z.elim) (fun _ z => z.elim) (rs_F.rc (hF.k0 (rs_S.X hS))) trivial rfl rfl (Nat.le_of_ble_eq_true rfl) ⟨by omega, by omega⟩ dX2_findErrorMagnitudes_51 (fun r H locs hX hp hS => ?_)
          have hN := hN.k0 hX
          subst hp
          refine rs_iast hx hb hK (rs_n i * cf (v + 1 - 1 - i)) hN hS (hA _ hs_q) (by omega) (by omega) dX2_findErrorMagnitudes_54 (fun H locs hN ho hz hS => ?_)
          refine lv_iinc (v := nI (i + 1)) (lv' := [(6, .int (nI (i + 1))), (0, .ref ec), (1, .ref om), (2, .ref sg), (3, .ref lo), (4, .int (nI v)), (5, .ref q)]) hx hb dX2_findErrorMagnitudes_55 hl (k := 6) rfl (nI_1 _) (by decide) rfl (fun ls hl => ?_)
          refine lv_goto (tgt := 25) hx hb dX2_findErrorMagnitudes_58 (by decide) ?_
          exact ih (i + 1) (va_up u (v - i) (rs_n i * cf (v + 1 - 1 - i))) _ _ ls (by omega) (by omega) (fun j hj hjv => by
            unfold va_up
            by_cases hji : j = v - i
            · rw [if_pos hji]
              show _ = rs_n (v - j) * cf j
              rw [show v - j = i by omega, show v + 1 - 1 - i = j by omega]
            · rw [if_neg hji]; exact hu j (by omega) hjv) hN hS (lv_sub hl [1, 2, 3, 4, 5, 6, 0] rfl)
    exact loop v 1 (fun _ => 0) _ _ ls (by omega) (Nat.le_refl 1) (fun j hj hjv => absurd hj (by omega)) hN hS (lv_sub hl [3, 4, 5, 6, 2, 1, 0] rfl)
  · exact absurd h1 (by omega)
end
section
/-! arrays of ModulusPoly; one step of Euclid's inner loop in pure terms -/
def rs_R (H : Heap) (a n : Nat) (cA : ClassId) (f : Nat → Option Nat) : Prop := H[a]? = some (vp_cell cA (n, .inr (.inr (.inr (.inr f)))))
theorem rs_R.lt {H : Heap} {a n : Nat} {cA : ClassId} {f : Nat → Option Nat} (h : rs_R H a n cA f) : a < H.size := (Array.getElem?_eq_some_iff.mp h).1
theorem rs_R.k0 {H H1 : Heap} {a n : Nat} {cA : ClassId} {f : Nat → Option Nat} (h : rs_R H a n cA f) (hX : rs_X rs_no H H1) : rs_R H1 a n cA f := by
  have h1 := hX.2 a h.lt (fun z => z)
  unfold rs_R at h ⊢
  rw [h1]; exact h
section RSQ
variable {p : Program} {l : Launch} {e : Env} {R : Room} {s : State} {m : MethodId} {args : Array Value} {below : List Frame} {meth : Method} {c : Code} {H : Heap} {locs : List Loc} {cells slots : Nat} {Q : State → Prop} {cc : ByteArray} {pc : Nat} {ls : Array Slot} {rest : List Value} {E : rsE} {A : Nat → Prop}
theorem rs_newq (hexec : p.tables.exec = Jvm.exec) (hb : c.code = cc) {own : String} {index : Nat} (hown : s.vm.findClass own = some m.cls) (hts : ∀ w ∈ lw_all, w.before args s = true) (hclink : Cond.classLink own index "ModulusPoly" ∈ lw_all) (hK : rs_KK E s) (hS : va_S A s.heap H locs)
    {n : Nat} (hn : n ≤ 1000) (hcells : cells + 1 ≤ R.cells) (hslots : slots + n ≤ R.slots) (hdg : decode cc pc = .ok (.anewarray index, 3))
    (kk : ∀ (q : Nat) (cA : ClassId) (H1 : Heap), q = H.size → s.heap.size ≤ q → va_K E.1 rsCl [(cA, .object "ModulusPoly")] s → rs_R H1 q n cA (fun _ => none) → rs_X rs_no H H1 → H1.size = H.size + 1 → va_S A s.heap H1 locs →
      W p l e R s m args below meth c H1 locs (cells + 1) (slots + n) Q (F0 m (pc + 3) ls (.ref q :: rest))) : W p l e R s m args below meth c H locs cells slots Q (F0 m pc ls (.int (nI n) :: rest)) := by
  have hlt : n < 2 ^ 31 := Nat.lt_of_le_of_lt hn (by decide)
  refine W.anew hexec hb hown (hts _ hclink) (va_AO.use hK.2) rfl hdg rfl (nI_pos hlt) (by rw [nI_clamp hlt]; omega) hcells (by rw [nI_clamp hlt]; exact hslots) fun cA kA comp f1 f2 f3 f4 => ?_
  rw [nI_clamp hlt]
  generalize hH1 : H.push ({ cls := cA, slots := Array.replicate n .null, vm := .none } : Cell) = H1
  have z1 : H1.size = H.size + 1 := by rw [← hH1, Array.size_push]
  have e1 : H1[H.size]? = some (arrV cA n (fun _ => .null)) := by rw [← hH1, Array.getElem?_push_size, ← arrV_new]
  have o1 : ∀ q : Nat, q < H.size → H1[q]? = H[q]? := fun q hq => by rw [← hH1, Array.getElem?_push, if_neg (Nat.ne_of_lt hq)]
  have hAr : ArrOfT s cA (.object "ModulusPoly") := fun N z => ⟨(fun k h => by cases h), kA, f2, comp, f3⟩
  have hX : rs_X rs_no H H1 := ⟨by omega, fun q hq _ => o1 q hq⟩
  refine kk H.size cA H1 rfl hS.1 ⟨hK.1.1, fun k x hx => ?_⟩ ?_ hX z1 ⟨Nat.le_trans hS.1 hX.1, fun x h1 h2 => (o1 x (Nat.lt_of_lt_of_le h1 hS.1)).trans (hS.2.1 x h1 h2), hS.2.2⟩
  · cases k with
    | zero => cases hx; exact ⟨hAr, kA, comp, f2, f3, f4, f1⟩
    | succ k => cases hx
  · show H1[H.size]? = some (vp_cell _ _)
    rw [vp_cell_q]
    exact e1
theorem rs_astq (hexec : p.tables.exec = Jvm.exec) (hb : c.code = cc) {cA : ClassId} (hKq : va_K E.1 rsCl [(cA, .object "ModulusPoly")] s) (hK : rs_KK E s) {a n i v : Nat} {vs : List Value} {f : Nat → Option Nat} (ha : rs_R H a n cA f) (hv : rs_O E H v 0 vs) (hS : va_S A s.heap H locs) (hA : A a) (hi : i < n) (hn : n < 2 ^ 31) (hdg : decode cc pc = .ok (.aastore, 1))
    (kk : ∀ (H1 : Heap) (locs1 : List Loc), rs_R H1 a n cA (va_up f i (some v)) → (∀ q : Nat, q ≠ a → H1[q]? = H[q]?) → H1.size = H.size → va_S A s.heap H1 locs1 → W p l e R s m args below meth c H1 locs1 cells slots Q (F0 m (pc + 1) ls rest)) : W p l e R s m args below meth c H locs cells slots Q (F0 m pc ls (.ref v :: .int (nI i) :: .ref a :: rest)) := by
  have hlt : (nI i).toNatClampNeg = i := nI_clamp (Nat.lt_trans hi hn)
  obtain ⟨r', hr', cellV, g1, g2, g3, -⟩ := hv
  have hcls := (hK.1.1 0 _ rfl).2
  obtain ⟨kA, comp, k1, k2, k3, -⟩ := (hKq.2 0 _ rfl).2
  have hcomp : comp = E.1.1 0 := Option.some.inj (k3.symm.trans hcls.1)
  subst hcomp
  obtain ⟨kC, hkC, -⟩ := hcls.2
  refine W.aast hexec hb ha (fun q h => by cases h) (fun h => by cases h) k1 k2 rfl hkC ⟨nI_pos (Nat.lt_trans hi hn), by show _ < (arrV _ _ _).slots.size; rw [arrV_size, hlt]; exact hi⟩ g1 (fun q h => by rw [g3] at h; cases h) (by rw [g2]; exact hkC) (by rw [g2]; exact va_assign hcls) rfl rfl hdg fun H1 e z oq => ?_
  refine kk H1 _ ?_ oq z (hS.put z oq hA)
  show H1[a]? = some (vp_cell _ _)
  rw [e]
  rw [vp_cell_q, vp_cell_q, arrV_store, hlt]
  congr 2
  funext q
  by_cases hq : q = i
  · subst hq
    simp [updV, va_up, va_rf]
  · simp [updV, va_up, hq]
theorem rs_aldq (hexec : p.tables.exec = Jvm.exec) (hb : c.code = cc) {cA : ClassId} (hKq : va_K E.1 rsCl [(cA, .object "ModulusPoly")] s) {a n i v : Nat} {f : Nat → Option Nat} (ha : rs_R H a n cA f) (hf : f i = some v) (hi : i < n) (hn : n < 2 ^ 31) (hdg : decode cc pc = .ok (.aaload, 1))
    (kk : W p l e R s m args below meth c H locs cells slots Q (F0 m (pc + 1) ls (.ref v :: rest))) : W p l e R s m args below meth c H locs cells slots Q (F0 m pc ls (.int (nI i) :: .ref a :: rest)) := by
  refine va_aldq hexec hb hKq (va_P1 (q := (a, .inl (cA, n, .inr (.inr (.inr (.inr f)))))) ha) 0 0 rfl rfl (vp_in_nI hi hn) hdg ?_
  rw [nI_clamp (Nat.lt_trans hi hn), hf]
  exact kk
end RSQ
/-- Euclid's inner step takes the leading number away -/
theorem rs_drop {n5 nL d n6 : Nat} {c5 cL c6 : Nat → rsK} {a : rsK} (hn : n5 = nL + d) (hnL : 1 ≤ nL) (h2 : 2 ≤ n5) (h9 : n5 ≤ 929) (ha : a * cL 0 = c5 0) (hN : rs_N n6 c6) (hle : n6 ≤ n5) (he : ∀ x, rs_ev c6 n6 x = rs_ev c5 n5 x - a * (rs_pw x d * rs_ev cL nL x)) : n6 < n5 := by
  rcases Nat.lt_or_ge n6 n5 with q | q
  · exact q
  · exfalso
    have e6 : n6 = n5 := by omega
    have h0 := hN.2 (by omega)
    have b1 : rs_BL n5 (fun x => rs_ev c5 n5 x) (c5 0) := ⟨c5, rfl, fun _ => rfl⟩
    have b2 : rs_BL n5 (fun x => rs_ev cL nL x * rs_pw x d) (cL 0) := ⟨fun j => if j < nL then cL j else 0, by show (if 0 < nL then cL 0 else 0) = cL 0; rw [if_pos (by omega)], fun x => by rw [hn, rs_ev_sh cL nL d x]⟩
    have b3 : rs_BL n5 (fun x => rs_ev c6 n5 x) (c6 0) := ⟨c6, rfl, fun _ => rfl⟩
    have b4 := rs_BL_add b3 (rs_BL_add (rs_BL_sm (-1) b1) (rs_BL_sm a b2))
    have h3 := rs_BL_zero b4 (by omega) h9 (fun x => by
      have := he x
      rw [e6] at this
      rw [this]; grind)
    rw [ha] at h3
    apply h0
    have h4 : c6 0 = c6 0 + (-1 * c5 0 + c5 0) := by grind
    rw [h4]; exact h3
/-- a monomial has its full length -/
theorem rs_mono_len {n d : Nat} {cf : Nat → rsK} {v : rsK} (hv : v ≠ 0) (hd : d < 900) (hN : rs_N n cf) (hle : n ≤ d + 1) (he : ∀ x, rs_ev cf n x = v * rs_pw x d) : n = d + 1 := by
  rcases Nat.lt_or_ge n (d + 1) with q | q
  · exfalso
    have b1 : rs_BL (d + 1) (fun x => rs_ev (fun _ => v) 1 x * rs_pw x d) v := ⟨fun j => if j < 1 then v else 0, rfl, fun x => by rw [Nat.add_comm d 1, rs_ev_sh (fun _ => v) 1 d x]⟩
    have b2 := rs_BL_add b1 (rs_BL_mono0 (rs_B_sm (-1) (rs_B_of cf n)) q)
    have h3 := rs_BL_zero b2 (by omega) (by omega) (fun x => by
      have := he x
      rw [this, rs_ev_s, rs_ev_0]; grind)
    apply hv
    have h4 : v = v + 0 := by grind
    rw [h4]; exact h3
  · omega
theorem rs_ev_at0 {n : Nat} {cf : Nat → rsK} (hn : 1 ≤ n) : rs_ev cf n 0 = cf (n - 1 - 0) := by
  rw [show n = (n - 1) + 1 by omega, rs_ev_s, show n - 1 + 1 - 1 - 0 = n - 1 by omega]
  grind
end
section
/-! ErrorCorrection.runEuclideanAlgorithm -/
set_option maxHeartbeats 4000000 in
set_option maxRecDepth 100000 in
theorem met_X2_runEuclideanAlgorithm (E : rsE) (l : Launch) (ec pa pb w8 nA nB : Nat) (cA cB : Nat → rsK) (L : List (rsK × rsK)) (hw1 : 1 ≤ w8) (hw8 : w8 ≤ 8) (hL : rs_ok L) (hv1 : 1 ≤ L.length) (hv : L.length ≤ w8) (hNA : rs_N nA cA) (hNB : rs_N nB cB) (hnA : nA = 2 * w8 + 1) (hnB : nB ≤ 2 * w8) (heA : ∀ x, rs_ev cA nA x = rs_pw x (2 * w8)) (heB : ∀ x, rs_ev cB nB x = rs_sy (2 * w8) L x) : rs_Cr E l yX2_runEuclideanAlgorithm cX2_runEuclideanAlgorithm 15 (.array (.object "ModulusPoly")) ⟨4, 5000, 290000, 101⟩ rs_no [.ref ec, .ref pa, .ref pb, .int (nI (2 * w8))] (fun H => rs_O E H ec 1 [.ref (E.2.2 0)] ∧ rs_P E H pa nA cA ∧ rs_P E H pb nB cB) (fun t r H => ∃ (cQ : ClassId) (f : Nat → Option Nat) (sg om no : Nat) (cs co : Nat → rsK), va_K E.1 rsCl [(cQ, .object "ModulusPoly")] t ∧ rs_R H r 2 cQ f ∧ f 0 = some sg ∧ f 1 = some om ∧ rs_P E H sg (L.length + 1) cs ∧ (∀ x, rs_ev cs (L.length + 1) x = rs_lam L x) ∧ rs_P E H om no co ∧ 1 ≤ no ∧ no ≤ 100 ∧ ∀ x, rs_ev co no x = rs_om rs_w1 L x) := by
  refine rs_goR (by decide) (Nat.le_of_ble_eq_true rfl) (Or.inr ⟨_, rfl⟩) (fun p e R s m args below meth c Q hx hb hml hown hts hnm hK hF hpre hRf hRc hRs hRl hA hS hret ls hl => ?_)
  have hl : lv_has ls 15 [(0, .ref ec), (1, .ref pa), (2, .ref pb), (3, .int (nI (2 * w8)))] := hl
  obtain ⟨hE, hPA, hPB⟩ := hpre
  have hnA1 := hNA.1
  have hnB1 := hNB.1
  refine lv_aload_n hx hb dX2_runEuclideanAlgorithm_0 rfl (lv_at hl 1 rfl) ?_
  refine rs_cVi (As := []) (rest := []) hx hb hml hown hts hK (hF.k0 (rs_S.X hS)) hS hA hl.1 (met_X4_getDegree E l pa nA cA (by omega)) vf_X4_getDegree q241 ⟨by omega, by omega⟩ (fun _ _ z => z.elim) (fun _ z => z.elim) (rs_P.rc (hPA.k0 (rs_S.X hS)) hK) (hPA.k0 (rs_S.X hS)) rfl rfl (Nat.le_of_ble_eq_true rfl) ⟨by omega, by omega⟩ dX2_runEuclideanAlgorithm_1 (fun r H locs hX hp hS => ?_)
  subst hp
  refine lv_aload_n hx hb dX2_runEuclideanAlgorithm_4 rfl (lv_at hl 2 rfl) ?_
  refine rs_cVi (As := []) (rest := [.int (nI (nA - 1))]) hx hb hml hown hts hK (hF.k0 (rs_S.X hS)) hS hA hl.1 (met_X4_getDegree E l pb nB cB (by omega)) vf_X4_getDegree q241 ⟨by omega, by omega⟩ (fun _ _ z => z.elim) (fun _ z => z.elim) (rs_P.rc (hPB.k0 (rs_S.X hS)) hK) (hPB.k0 (rs_S.X hS)) rfl rfl (Nat.le_of_ble_eq_true rfl) ⟨by omega, by omega⟩ dX2_runEuclideanAlgorithm_5 (fun r H locs hX hp hS => ?_)
  subst hp
  refine rs_cge (tgt := 19) hx hb dX2_runEuclideanAlgorithm_8 (by decide) (by omega) (by omega) (fun h1 => ?_) (fun h1 => ?_)
  · refine lv_aload_n hx hb dX2_runEuclideanAlgorithm_19 rfl (lv_at hl 1 rfl) ?_
    refine lv_astore (lv' := [(4, .ref pa), (0, .ref ec), (1, .ref pa), (2, .ref pb), (3, .int (nI (2 * w8)))]) hx hb dX2_runEuclideanAlgorithm_20 hl (by decide) rfl (fun ls hl => ?_)
    refine lv_aload_n hx hb dX2_runEuclideanAlgorithm_22 rfl (lv_at hl 3 rfl) ?_
    refine lv_astore (lv' := [(5, .ref pb), (4, .ref pa), (0, .ref ec), (1, .ref pa), (2, .ref pb), (3, .int (nI (2 * w8)))]) hx hb dX2_runEuclideanAlgorithm_23 hl (by decide) rfl (fun ls hl => ?_)
    refine lv_aload_n hx hb dX2_runEuclideanAlgorithm_25 rfl (lv_at hl 2 rfl) ?_
    refine rs_ge hx hb hown hts hK (hE.k0 (rs_S.X hS)) dX2_runEuclideanAlgorithm_26 ?_
    refine rs_cVr (As := []) (rest := []) hx hb hml hown hts hK (hF.k0 (rs_S.X hS)) hS hA hl.1 (met_X3_getZero E l) vf_X3_getZero q245 ⟨by omega, by omega⟩ (fun _ _ z => z.elim) (fun _ z => z.elim) (rs_F.rc (hF.k0 (rs_S.X hS))) trivial rfl rfl (Nat.le_of_ble_eq_true rfl) ⟨by omega, by omega⟩ dX2_runEuclideanAlgorithm_29 (fun r t H locs hX hvm hp hS => ?_)
    subst hp
    refine lv_astore (lv' := [(6, .ref (E.2.2 3)), (5, .ref pb), (4, .ref pa), (0, .ref ec), (1, .ref pa), (2, .ref pb), (3, .int (nI (2 * w8)))]) hx hb dX2_runEuclideanAlgorithm_32 hl (by decide) rfl (fun ls hl => ?_)
    refine lv_aload_n hx hb dX2_runEuclideanAlgorithm_34 rfl (lv_at hl 3 rfl) ?_
    refine rs_ge hx hb hown hts hK (hE.k0 (rs_S.X hS)) dX2_runEuclideanAlgorithm_35 ?_
    refine rs_cVr (As := []) (rest := []) hx hb hml hown hts hK (hF.k0 (rs_S.X hS)) hS hA hl.1 (met_X3_getOne E l) vf_X3_getOne q194 ⟨by omega, by omega⟩ (fun _ _ z => z.elim) (fun _ z => z.elim) (rs_F.rc (hF.k0 (rs_S.X hS))) trivial rfl rfl (Nat.le_of_ble_eq_true rfl) ⟨by omega, by omega⟩ dX2_runEuclideanAlgorithm_38 (fun r t H locs hX hvm hp hS => ?_)
    subst hp
    refine lv_astore (lv' := [(7, .ref (E.2.2 5)), (6, .ref (E.2.2 3)), (5, .ref pb), (4, .ref pa), (0, .ref ec), (1, .ref pa), (2, .ref pb), (3, .int (nI (2 * w8)))]) hx hb dX2_runEuclideanAlgorithm_41 hl (by decide) rfl (fun ls hl => ?_)
    have loop : ∀ (k : Nat) (nl nr ntl nt : Nat) (cl cr ctl ct : Nat → rsK) (a4 a5 a6 a7 : Nat) (cells slots : Nat) (H : Heap) (locs : List Loc) (ls : Array Slot), nr ≤ k → rs_I (2 * w8) (rs_sy (2 * w8) L) nl (fun x => rs_ev cl nl x) (fun x => rs_ev cr nr x) (fun x => rs_ev ctl ntl x) (fun x => rs_ev ct nt x) → w8 + 1 ≤ nl → nl ≤ 2 * w8 + 1 → nr < nl → rs_N nl cl → rs_N nr cr → rs_N ntl ctl → rs_N nt ct → ntl ≤ 40 → nt ≤ 40 → cells + 300 * k + 7 ≤ 5000 → slots + 18000 * k + 406 ≤ 290000 → rs_P E H a4 nl cl → rs_P E H a5 nr cr → rs_P E H a6 ntl ctl → rs_P E H a7 nt ct → va_S (rs_W0 rs_no s.heap.size) s.heap H locs → lv_has ls 15 [(0, .ref ec), (3, .int (nI (2 * w8))), (4, .ref a4), (5, .ref a5), (6, .ref a6), (7, .ref a7)] → W p l e R s m args below meth c H locs cells slots Q (F0 m 43 ls []) := by
      intro k
      induction k with
      | zero =>
        intro nl nr ntl nt cl cr ctl ct a4 a5 a6 a7 cells slots H locs ls hk hI hl1 hl2 hl3 hN4 hN5 hN6 hN7 hb6 hb7 hc hs P4 P5 P6 P7 hS hl
        exact absurd hN5.1 (by omega)
      | succ k ih =>
        intro nl nr ntl nt cl cr ctl ct a4 a5 a6 a7 cells slots H locs ls hk hI hl1 hl2 hl3 hN4 hN5 hN6 hN7 hb6 hb7 hc hs P4 P5 P6 P7 hS hl
        have hn51 := hN5.1
        have hn61 := hN6.1
        have hn71 := hN7.1
        have hI9 := hI
        obtain ⟨u9, ul9, e9, he9, i1, i2, i3, b1, b2, b3, b4⟩ := hI9
        have hnt := rs_len (by omega) hN7.2 b1
        have hntl := rs_len (by omega) hN6.2 b2
        refine lv_aload hx hb dX2_runEuclideanAlgorithm_43 (lv_at hl 3 rfl) ?_
        refine rs_cVi (As := []) (rest := []) hx hb hml hown hts hK (hF.k0 (rs_S.X hS)) hS hA hl.1 (met_X4_getDegree E l a5 nr cr (by omega)) vf_X4_getDegree q241 ⟨by omega, by omega⟩ (fun _ _ z => z.elim) (fun _ z => z.elim) (rs_P.rc P5 hK) P5 rfl rfl (Nat.le_of_ble_eq_true rfl) ⟨by omega, by omega⟩ dX2_runEuclideanAlgorithm_45 (fun r H locs hX hp hS => ?_)
        have P4 := P4.k0 hX
        have P5 := P5.k0 hX
        have P6 := P6.k0 hX
        have P7 := P7.k0 hX
        subst hp
        refine lv_iload_n hx hb dX2_runEuclideanAlgorithm_48 rfl (lv_at hl 1 rfl) ?_
        refine lv_iconst (v := nI 2) hx hb dX2_runEuclideanAlgorithm_49 (by decide) ?_
        refine rs_idiv hx hb dX2_runEuclideanAlgorithm_50 (by decide) (by omega) (by decide) ?_
        refine rs_top (b := w8) (by omega) ?_
        refine rs_clt (tgt := 230) hx hb dX2_runEuclideanAlgorithm_51 (by decide) (by omega) (by omega) (fun h5 => ?_) (fun h5 => ?_)
        · have hE9 := rs_end (k := w8) hL hv1 hv hw8 hI hl1 hl2 (rs_B_mono (rs_B_of cr nr) (by omega))
          have t0 : rs_ev ct nt 0 ≠ 0 := hE9.1
          have t1 : ∀ x, rs_ev ct nt x = rs_ev ct nt 0 * rs_lam L x := hE9.2.1
          have t2 : ∀ x, rs_ev cr nr x = rs_ev ct nt 0 * rs_om rs_w1 L x := hE9.2.2
          refine lv_aload hx hb dX2_runEuclideanAlgorithm_230 (lv_at hl 5 rfl) ?_
          refine lv_iconst (v := nI 0) hx hb dX2_runEuclideanAlgorithm_232 (by decide) ?_
          refine rs_cVi (As := [.int (nI 0)]) (rest := []) hx hb hml hown hts hK (hF.k0 (rs_S.X hS)) hS hA hl.1 (met_X4_getCoefficient E l a7 nt 0 ct (by omega) (by omega)) vf_X4_getCoefficient q252 ⟨by omega, by omega⟩ (fun _ _ z => z.elim) (fun _ z => z.elim) (rs_P.rc P7 hK) P7 rfl rfl (Nat.le_of_ble_eq_true rfl) ⟨by omega, by omega⟩ dX2_runEuclideanAlgorithm_233 (fun r H locs hX hp hS => ?_)
          have P4 := P4.k0 hX
          have P5 := P5.k0 hX
          have P6 := P6.k0 hX
          have P7 := P7.k0 hX
          subst hp
          refine rs_top (b := (rs_ev ct nt 0).val) (by rw [rs_ev_at0 hn71]) ?_
          refine lv_istore (lv' := [(8, .int (kI (rs_ev ct nt 0))), (0, .ref ec), (3, .int (nI (2 * w8))), (4, .ref a4), (5, .ref a5), (6, .ref a6), (7, .ref a7)]) hx hb dX2_runEuclideanAlgorithm_236 hl (by decide) rfl (fun ls hl => ?_)
          refine lv_iload hx hb dX2_runEuclideanAlgorithm_238 (lv_at hl 0 rfl) ?_
          refine rs_ifne (tgt := 247) hx hb dX2_runEuclideanAlgorithm_240 (by decide) (rs_lt _) (fun h6 => ?_) (fun h6 => ?_)
          · refine lv_aload_n hx hb dX2_runEuclideanAlgorithm_247 rfl (lv_at hl 1 rfl) ?_
            refine rs_ge hx hb hown hts hK (hE.k0 (rs_S.X hS)) dX2_runEuclideanAlgorithm_248 ?_
            refine lv_iload hx hb dX2_runEuclideanAlgorithm_251 (lv_at hl 0 rfl) ?_
            refine rs_cVi (As := [.int (kI (rs_ev ct nt 0))]) (rest := []) hx hb hml hown hts hK (hF.k0 (rs_S.X hS)) hS hA hl.1 (met_X3_inverse E l (rs_ev ct nt 0) t0) vf_X3_inverse q253 ⟨by omega, by omega⟩ (fun _ _ z => z.elim) (fun _ z => z.elim) (rs_F.rc (hF.k0 (rs_S.X hS))) trivial rfl rfl (Nat.le_of_ble_eq_true rfl) ⟨by omega, by omega⟩ dX2_runEuclideanAlgorithm_253 (fun r H locs hX hp hS => ?_)
            have P4 := P4.k0 hX
            have P5 := P5.k0 hX
            have P6 := P6.k0 hX
            have P7 := P7.k0 hX
            subst hp
            refine lv_istore (lv' := [(9, .int (kI (rs_iv (rs_ev ct nt 0)))), (8, .int (kI (rs_ev ct nt 0))), (0, .ref ec), (3, .int (nI (2 * w8))), (4, .ref a4), (5, .ref a5), (6, .ref a6), (7, .ref a7)]) hx hb dX2_runEuclideanAlgorithm_256 hl (by decide) rfl (fun ls hl => ?_)
            refine lv_aload hx hb dX2_runEuclideanAlgorithm_258 (lv_at hl 7 rfl) ?_
            refine lv_iload hx hb dX2_runEuclideanAlgorithm_260 (lv_at hl 0 rfl) ?_
            refine rs_cVr (As := [.int (kI (rs_iv (rs_ev ct nt 0)))]) (rest := []) hx hb hml hown hts hK (hF.k0 (rs_S.X hS)) hS hA hl.1 (met_X4_multiply_2 E l a7 nt ct (rs_iv (rs_ev ct nt 0)) hn71 (by omega) hN7) vf_X4_multiply_2 q293 ⟨by omega, by omega⟩ (fun _ _ z => z.elim) (fun _ z => z.elim) (rs_P.rc P7 hK) P7 rfl rfl (Nat.le_of_ble_eq_true rfl) ⟨by omega, by omega⟩ dX2_runEuclideanAlgorithm_262 (fun sg t H locs hX hvm hp hS => ?_)
            have P4 := P4.k0 hX
            have P5 := P5.k0 hX
            have P6 := P6.k0 hX
            have P7 := P7.k0 hX
            obtain ⟨ns, cs, Ps, hNs, hles, hes⟩ := hp
            refine lv_astore (lv' := [(10, .ref sg), (9, .int (kI (rs_iv (rs_ev ct nt 0)))), (8, .int (kI (rs_ev ct nt 0))), (0, .ref ec), (3, .int (nI (2 * w8))), (4, .ref a4), (5, .ref a5), (6, .ref a6), (7, .ref a7)]) hx hb dX2_runEuclideanAlgorithm_265 hl (by decide) rfl (fun ls hl => ?_)
            refine lv_aload hx hb dX2_runEuclideanAlgorithm_267 (lv_at hl 6 rfl) ?_
            refine lv_iload hx hb dX2_runEuclideanAlgorithm_269 (lv_at hl 1 rfl) ?_
            refine rs_cVr (As := [.int (kI (rs_iv (rs_ev ct nt 0)))]) (rest := []) hx hb hml hown hts hK (hF.k0 (rs_S.X hS)) hS hA hl.1 (met_X4_multiply_2 E l a5 nr cr (rs_iv (rs_ev ct nt 0)) hn51 (by omega) hN5) vf_X4_multiply_2 q293 ⟨by omega, by omega⟩ (fun _ _ z => z.elim) (fun _ z => z.elim) (rs_P.rc P5 hK) P5 rfl rfl (Nat.le_of_ble_eq_true rfl) ⟨by omega, by omega⟩ dX2_runEuclideanAlgorithm_271 (fun om t H locs hX hvm hp hS => ?_)
            have P4 := P4.k0 hX
            have P5 := P5.k0 hX
            have P6 := P6.k0 hX
            have P7 := P7.k0 hX
            have Ps := Ps.k0 hX
            obtain ⟨no, co, Po, hNo, hleo, heo⟩ := hp
            have hiv := rs_mul_iv t0
            have hes2 : ∀ x, rs_ev cs ns x = rs_lam L x := fun x => by
              have h9 : rs_ev cs ns x = rs_iv (rs_ev ct nt 0) * rs_ev ct nt x := hes x
              rw [h9, t1 x]
              have h8 : rs_iv (rs_ev ct nt 0) * (rs_ev ct nt 0 * rs_lam L x) = rs_ev ct nt 0 * rs_iv (rs_ev ct nt 0) * rs_lam L x := by grind
              rw [h8, hiv]; grind
            have heo2 : ∀ x, rs_ev co no x = rs_om rs_w1 L x := fun x => by
              have h9 : rs_ev co no x = rs_iv (rs_ev ct nt 0) * rs_ev cr nr x := heo x
              rw [h9, t2 x]
              have h8 : rs_iv (rs_ev ct nt 0) * (rs_ev ct nt 0 * rs_om rs_w1 L x) = rs_ev ct nt 0 * rs_iv (rs_ev ct nt 0) * rs_om rs_w1 L x := by grind
              rw [h8, hiv]; grind
            have hns : ns = L.length + 1 := rs_lam_len hL rs_ne10 (by omega) (by omega) hNs.1 hNs.2 (fun x => by rw [hes2]; grind)
            subst hns
            have hno1 := hNo.1
            obtain ⟨bs, hOs, hCs⟩ := Ps
            obtain ⟨bo, hOo, hCo⟩ := Po
            refine lv_astore (lv' := [(11, .ref om), (10, .ref sg), (9, .int (kI (rs_iv (rs_ev ct nt 0)))), (8, .int (kI (rs_ev ct nt 0))), (0, .ref ec), (3, .int (nI (2 * w8))), (4, .ref a4), (5, .ref a5), (6, .ref a6), (7, .ref a7)]) hx hb dX2_runEuclideanAlgorithm_274 hl (by decide) rfl (fun ls hl => ?_)
            refine lv_iconst (v := nI 2) hx hb dX2_runEuclideanAlgorithm_276 (by decide) ?_
            refine rs_newq (n := 2) hx hb hown hts q94 hK hS (by decide) (by omega) (by omega) dX2_runEuclideanAlgorithm_277 (fun q cQ H hq_q hs_q hKq hR hX hz_q hS => ?_)
            have ne_sg_q : sg ≠ q := by rw [hq_q]; exact Nat.ne_of_lt (rs_O.lt hOs)
            have ne_bs_q : bs ≠ q := by rw [hq_q]; exact Nat.ne_of_lt (rs_A.lt hCs)
            have ne_om_q : om ≠ q := by rw [hq_q]; exact Nat.ne_of_lt (rs_O.lt hOo)
            have ne_bo_q : bo ≠ q := by rw [hq_q]; exact Nat.ne_of_lt (rs_A.lt hCo)
            have hOs := hOs.k0 hX
            have hCs := hCs.k0 hX
            have hOo := hOo.k0 hX
            have hCo := hCo.k0 hX
            refine lv_dup hx hb dX2_runEuclideanAlgorithm_280 rfl ?_
            refine lv_iconst (v := nI 0) hx hb dX2_runEuclideanAlgorithm_281 (by decide) ?_
            refine lv_aload hx hb dX2_runEuclideanAlgorithm_282 (lv_at hl 1 rfl) ?_
            refine rs_astq (i := 0) hx hb hKq hK hR hOs hS (hA _ hs_q) (by decide) (by decide) dX2_runEuclideanAlgorithm_284 (fun H locs hR ho hz hS => ?_)
            have hOs := hOs.st ho ne_sg_q
            have hCs := hCs.st ho ne_bs_q
            have hOo := hOo.st ho ne_om_q
            have hCo := hCo.st ho ne_bo_q
            refine lv_dup hx hb dX2_runEuclideanAlgorithm_285 rfl ?_
            refine lv_iconst (v := nI 1) hx hb dX2_runEuclideanAlgorithm_286 (by decide) ?_
            refine lv_aload hx hb dX2_runEuclideanAlgorithm_287 (lv_at hl 0 rfl) ?_
            refine rs_astq (i := 1) hx hb hKq hK hR hOo hS (hA _ hs_q) (by decide) (by decide) dX2_runEuclideanAlgorithm_289 (fun H locs hR ho hz hS => ?_)
            have hOs := hOs.st ho ne_sg_q
            have hCs := hCs.st ho ne_bs_q
            have hOo := hOo.st ho ne_om_q
            have hCo := hCo.st ho ne_bo_q
            exact hret _ _ _ _ _ _ _ hS dX2_runEuclideanAlgorithm_290 (by omega) (by omega) (fun t hvm => ⟨cQ, _, sg, om, no, cs, co, va_K.moved hvm hKq, hR, rfl, rfl, ⟨bs, hOs, hCs⟩, hes2, ⟨bo, hOo, hCo⟩, hno1, by omega, heo2⟩)
          · exact absurd (rs_val_0.mp h6) t0
        · refine lv_aload hx hb dX2_runEuclideanAlgorithm_54 (lv_at hl 2 rfl) ?_
          refine lv_astore (lv' := [(8, .ref a4), (0, .ref ec), (3, .int (nI (2 * w8))), (4, .ref a4), (5, .ref a5), (6, .ref a6), (7, .ref a7)]) hx hb dX2_runEuclideanAlgorithm_56 hl (by decide) rfl (fun ls hl => ?_)
          refine lv_aload hx hb dX2_runEuclideanAlgorithm_58 (lv_at hl 5 rfl) ?_
          refine lv_astore (lv' := [(9, .ref a6), (8, .ref a4), (0, .ref ec), (3, .int (nI (2 * w8))), (4, .ref a4), (5, .ref a5), (6, .ref a6), (7, .ref a7)]) hx hb dX2_runEuclideanAlgorithm_60 hl (by decide) rfl (fun ls hl => ?_)
          refine lv_aload hx hb dX2_runEuclideanAlgorithm_62 (lv_at hl 5 rfl) ?_
          refine lv_astore (lv' := [(4, .ref a5), (9, .ref a6), (8, .ref a4), (0, .ref ec), (3, .int (nI (2 * w8))), (5, .ref a5), (6, .ref a6), (7, .ref a7)]) hx hb dX2_runEuclideanAlgorithm_64 hl (by decide) rfl (fun ls hl => ?_)
          refine lv_aload hx hb dX2_runEuclideanAlgorithm_66 (lv_at hl 7 rfl) ?_
          refine lv_astore (lv' := [(6, .ref a7), (4, .ref a5), (9, .ref a6), (8, .ref a4), (0, .ref ec), (3, .int (nI (2 * w8))), (5, .ref a5), (7, .ref a7)]) hx hb dX2_runEuclideanAlgorithm_68 hl (by decide) rfl (fun ls hl => ?_)
          refine lv_aload hx hb dX2_runEuclideanAlgorithm_70 (lv_at hl 1 rfl) ?_
          refine rs_cVi (As := []) (rest := []) hx hb hml hown hts hK (hF.k0 (rs_S.X hS)) hS hA hl.1 (met_X4_isZero E l a5 nr cr hn51 (by omega)) vf_X4_isZero q246 ⟨by omega, by omega⟩ (fun _ _ z => z.elim) (fun _ z => z.elim) (rs_P.rc P5 hK) P5 rfl rfl (Nat.le_of_ble_eq_true rfl) ⟨by omega, by omega⟩ dX2_runEuclideanAlgorithm_72 (fun r H locs hX hp hS => ?_)
          have P4 := P4.k0 hX
          have P5 := P5.k0 hX
          have P6 := P6.k0 hX
          have P7 := P7.k0 hX
          rcases hp with ⟨h0, hp⟩ | ⟨h0, hp⟩
          · exact absurd h0 (hN5.2 (by omega))
          · subst hp
            refine rs_ifeq (tgt := 82) hx hb dX2_runEuclideanAlgorithm_75 (by decide) (by omega) (fun h7 => ?_) (fun h7 => ?_)
            · refine lv_aload hx hb dX2_runEuclideanAlgorithm_82 (lv_at hl 3 rfl) ?_
              refine lv_astore (lv' := [(5, .ref a4), (6, .ref a7), (4, .ref a5), (9, .ref a6), (8, .ref a4), (0, .ref ec), (3, .int (nI (2 * w8))), (7, .ref a7)]) hx hb dX2_runEuclideanAlgorithm_84 hl (by decide) rfl (fun ls hl => ?_)
              refine lv_aload_n hx hb dX2_runEuclideanAlgorithm_86 rfl (lv_at hl 5 rfl) ?_
              refine rs_ge hx hb hown hts hK (hE.k0 (rs_S.X hS)) dX2_runEuclideanAlgorithm_87 ?_
              refine rs_cVr (As := []) (rest := []) hx hb hml hown hts hK (hF.k0 (rs_S.X hS)) hS hA hl.1 (met_X3_getZero E l) vf_X3_getZero q245 ⟨by omega, by omega⟩ (fun _ _ z => z.elim) (fun _ z => z.elim) (rs_F.rc (hF.k0 (rs_S.X hS))) trivial rfl rfl (Nat.le_of_ble_eq_true rfl) ⟨by omega, by omega⟩ dX2_runEuclideanAlgorithm_90 (fun r t H locs hX hvm hp hS => ?_)
              have P4 := P4.k0 hX
              have P5 := P5.k0 hX
              have P6 := P6.k0 hX
              have P7 := P7.k0 hX
              subst hp
              refine lv_astore (lv' := [(10, .ref (E.2.2 3)), (5, .ref a4), (6, .ref a7), (4, .ref a5), (9, .ref a6), (8, .ref a4), (0, .ref ec), (3, .int (nI (2 * w8))), (7, .ref a7)]) hx hb dX2_runEuclideanAlgorithm_93 hl (by decide) rfl (fun ls hl => ?_)
              refine lv_aload hx hb dX2_runEuclideanAlgorithm_95 (lv_at hl 3 rfl) ?_
              refine lv_aload hx hb dX2_runEuclideanAlgorithm_97 (lv_at hl 3 rfl) ?_
              refine rs_cVi (As := []) (rest := [.ref a5]) hx hb hml hown hts hK (hF.k0 (rs_S.X hS)) hS hA hl.1 (met_X4_getDegree E l a5 nr cr (by omega)) vf_X4_getDegree q241 ⟨by omega, by omega⟩ (fun _ _ z => z.elim) (fun _ z => z.elim) (rs_P.rc P5 hK) P5 rfl rfl (Nat.le_of_ble_eq_true rfl) ⟨by omega, by omega⟩ dX2_runEuclideanAlgorithm_99 (fun r H locs hX hp hS => ?_)
              have P4 := P4.k0 hX
              have P5 := P5.k0 hX
              have P6 := P6.k0 hX
              have P7 := P7.k0 hX
              subst hp
              refine rs_cVi (As := [.int (nI (nr - 1))]) (rest := []) hx hb hml hown hts hK (hF.k0 (rs_S.X hS)) hS hA hl.1 (met_X4_getCoefficient E l a5 nr (nr - 1) cr (by omega) (by omega)) vf_X4_getCoefficient q252 ⟨by omega, by omega⟩ (fun _ _ z => z.elim) (fun _ z => z.elim) (rs_P.rc P5 hK) P5 rfl rfl (Nat.le_of_ble_eq_true rfl) ⟨by omega, by omega⟩ dX2_runEuclideanAlgorithm_102 (fun r H locs hX hp hS => ?_)
              have P4 := P4.k0 hX
              have P5 := P5.k0 hX
              have P6 := P6.k0 hX
              have P7 := P7.k0 hX
              subst hp
              refine rs_top (b := (cr 0).val) (by rw [Nat.sub_self]) ?_
              refine lv_istore (lv' := [(11, .int (kI (cr 0))), (10, .ref (E.2.2 3)), (5, .ref a4), (6, .ref a7), (4, .ref a5), (9, .ref a6), (8, .ref a4), (0, .ref ec), (3, .int (nI (2 * w8))), (7, .ref a7)]) hx hb dX2_runEuclideanAlgorithm_105 hl (by decide) rfl (fun ls hl => ?_)
              refine lv_aload_n hx hb dX2_runEuclideanAlgorithm_107 rfl (lv_at hl 7 rfl) ?_
              refine rs_ge hx hb hown hts hK (hE.k0 (rs_S.X hS)) dX2_runEuclideanAlgorithm_108 ?_
              refine lv_iload hx hb dX2_runEuclideanAlgorithm_111 (lv_at hl 0 rfl) ?_
              refine rs_cVi (As := [.int (kI (cr 0))]) (rest := []) hx hb hml hown hts hK (hF.k0 (rs_S.X hS)) hS hA hl.1 (met_X3_inverse E l (cr 0) h0) vf_X3_inverse q253 ⟨by omega, by omega⟩ (fun _ _ z => z.elim) (fun _ z => z.elim) (rs_F.rc (hF.k0 (rs_S.X hS))) trivial rfl rfl (Nat.le_of_ble_eq_true rfl) ⟨by omega, by omega⟩ dX2_runEuclideanAlgorithm_113 (fun r H locs hX hp hS => ?_)
              have P4 := P4.k0 hX
              have P5 := P5.k0 hX
              have P6 := P6.k0 hX
              have P7 := P7.k0 hX
              subst hp
              refine lv_istore (lv' := [(12, .int (kI (rs_iv (cr 0)))), (11, .int (kI (cr 0))), (10, .ref (E.2.2 3)), (5, .ref a4), (6, .ref a7), (4, .ref a5), (9, .ref a6), (8, .ref a4), (0, .ref ec), (3, .int (nI (2 * w8))), (7, .ref a7)]) hx hb dX2_runEuclideanAlgorithm_116 hl (by decide) rfl (fun ls hl => ?_)
              have ih0 := ih
              have inner : ∀ (k2 : Nat) (n5 nq : Nat) (c5 cq : Nat → rsK) (b5 b10 : Nat) (cells slots : Nat) (H : Heap) (locs : List Loc) (ls : Array Slot), n5 ≤ k2 → n5 ≤ nl → nq ≤ nl - nr + 1 → (∀ x, rs_ev c5 n5 x = rs_ev cl nl x - rs_ev cq nq x * rs_ev cr nr x) → rs_N n5 c5 → rs_N nq cq → cells + 15 * k2 + 12 + 300 * k + 7 ≤ 5000 → slots + 1010 * k2 + 808 + 18000 * k + 406 ≤ 290000 → rs_P E H a5 nr cr → rs_P E H b5 n5 c5 → rs_P E H a7 nt ct → rs_P E H a6 ntl ctl → rs_P E H b10 nq cq → va_S (rs_W0 rs_no s.heap.size) s.heap H locs → lv_has ls 15 [(0, .ref ec), (3, .int (nI (2 * w8))), (4, .ref a5), (5, .ref b5), (6, .ref a7), (9, .ref a6), (10, .ref b10), (12, .int (kI (rs_iv (cr 0))))] → W p l e R s m args below meth c H locs cells slots Q (F0 m 118 ls []) := by
                intro k2
                induction k2 with
                | zero =>
                  intro n5 nq c5 cq b5 b10 cells slots H locs ls hk2 hn5l hnq he5 hM5 hMq hc2 hs2 P4 P5 P6 P9 P10 hS hl
                  exact absurd hM5.1 (by omega)
                | succ k2 ih =>
                  intro n5 nq c5 cq b5 b10 cells slots H locs ls hk2 hn5l hnq he5 hM5 hMq hc2 hs2 P4 P5 P6 P9 P10 hS hl
                  have hm51 := hM5.1
                  have hmq1 := hMq.1
                  refine lv_aload hx hb dX2_runEuclideanAlgorithm_118 (lv_at hl 3 rfl) ?_
                  refine rs_cVi (As := []) (rest := []) hx hb hml hown hts hK (hF.k0 (rs_S.X hS)) hS hA hl.1 (met_X4_getDegree E l b5 n5 c5 (by omega)) vf_X4_getDegree q241 ⟨by omega, by omega⟩ (fun _ _ z => z.elim) (fun _ z => z.elim) (rs_P.rc P5 hK) P5 rfl rfl (Nat.le_of_ble_eq_true rfl) ⟨by omega, by omega⟩ dX2_runEuclideanAlgorithm_120 (fun r H locs hX hp hS => ?_)
                  have P4 := P4.k0 hX
                  have P5 := P5.k0 hX
                  have P6 := P6.k0 hX
                  have P9 := P9.k0 hX
                  have P10 := P10.k0 hX
                  subst hp
                  refine lv_aload hx hb dX2_runEuclideanAlgorithm_123 (lv_at hl 2 rfl) ?_
                  refine rs_cVi (As := []) (rest := [.int (nI (n5 - 1))]) hx hb hml hown hts hK (hF.k0 (rs_S.X hS)) hS hA hl.1 (met_X4_getDegree E l a5 nr cr (by omega)) vf_X4_getDegree q241 ⟨by omega, by omega⟩ (fun _ _ z => z.elim) (fun _ z => z.elim) (rs_P.rc P4 hK) P4 rfl rfl (Nat.le_of_ble_eq_true rfl) ⟨by omega, by omega⟩ dX2_runEuclideanAlgorithm_125 (fun r H locs hX hp hS => ?_)
                  have P4 := P4.k0 hX
                  have P5 := P5.k0 hX
                  have P6 := P6.k0 hX
                  have P9 := P9.k0 hX
                  have P10 := P10.k0 hX
                  subst hp
                  refine rs_clt (tgt := 210) hx hb dX2_runEuclideanAlgorithm_128 (by decide) (by omega) (by omega) (fun h8 => ?_) (fun h8 => ?_)
                  · have hlt5 : n5 < nr := by omega
                    refine lv_aload hx hb dX2_runEuclideanAlgorithm_210 (lv_at hl 6 rfl) ?_
                    refine lv_aload hx hb dX2_runEuclideanAlgorithm_212 (lv_at hl 4 rfl) ?_
                    refine rs_cVr (As := [.ref a7]) (rest := []) hx hb hml hown hts hK (hF.k0 (rs_S.X hS)) hS hA hl.1 (met_X4_multiply E l b10 a7 nq nt cq ct (by omega) (by omega) hMq hN7) vf_X4_multiply q202 ⟨by omega, by omega⟩ (fun _ _ z => z.elim) (fun _ z => z.elim) (rs_P.rc P10 hK) (⟨P10, P6⟩) rfl rfl (Nat.le_of_ble_eq_true rfl) ⟨by omega, by omega⟩ dX2_runEuclideanAlgorithm_214 (fun r1 t H locs hX hvm hp hS => ?_)
                    have P4 := P4.k0 hX
                    have P5 := P5.k0 hX
                    have P6 := P6.k0 hX
                    have P9 := P9.k0 hX
                    have P10 := P10.k0 hX
                    obtain ⟨n1, c1, Q1, hO1, hle1, hev1⟩ := hp
                    refine lv_aload hx hb dX2_runEuclideanAlgorithm_217 (lv_at hl 5 rfl) ?_
                    refine rs_cVr (As := [.ref a6]) (rest := []) hx hb hml hown hts hK (hF.k0 (rs_S.X hS)) hS hA hl.1 (met_X4_subtract E l r1 a6 n1 ntl c1 ctl (by omega) (by omega) hO1 hN6) vf_X4_subtract q282 ⟨by omega, by omega⟩ (fun _ _ z => z.elim) (fun _ z => z.elim) (rs_P.rc Q1 hK) (⟨Q1, P9⟩) rfl rfl (Nat.le_of_ble_eq_true rfl) ⟨by omega, by omega⟩ dX2_runEuclideanAlgorithm_219 (fun r2 t H locs hX hvm hp hS => ?_)
                    have P4 := P4.k0 hX
                    have P5 := P5.k0 hX
                    have P6 := P6.k0 hX
                    have P9 := P9.k0 hX
                    have P10 := P10.k0 hX
                    have Q1 := Q1.k0 hX
                    obtain ⟨n2, c2, Q2, hO2, hle2, hev2⟩ := hp
                    have hn21 := hO2.1
                    refine rs_cVr (As := []) (rest := []) hx hb hml hown hts hK (hF.k0 (rs_S.X hS)) hS hA hl.1 (met_X4_negative E l r2 n2 c2 hn21 (by omega)) vf_X4_negative q292 ⟨by omega, by omega⟩ (fun _ _ z => z.elim) (fun _ z => z.elim) (rs_P.rc Q2 hK) Q2 rfl rfl (Nat.le_of_ble_eq_true rfl) ⟨by omega, by omega⟩ dX2_runEuclideanAlgorithm_222 (fun r3 t H locs hX hvm hp hS => ?_)
                    have P4 := P4.k0 hX
                    have P5 := P5.k0 hX
                    have P6 := P6.k0 hX
                    have P9 := P9.k0 hX
                    have P10 := P10.k0 hX
                    have Q1 := Q1.k0 hX
                    have Q2 := Q2.k0 hX
                    obtain ⟨n3, c3, Q3, hO3, hle3, hev3⟩ := hp
                    have hnew : rs_I (2 * w8) (rs_sy (2 * w8) L) nr (fun x => rs_ev cr nr x) (fun x => rs_ev c5 n5 x) (fun x => rs_ev ct nt x) (fun x => rs_ev c3 n3 x) := by
                      refine rs_I_s hI hl2 (Nat.le_of_lt hl3) (rs_B_mono (rs_B_of cq nq) hnq) he5 (fun x => ?_)
                      have g1 : rs_ev c1 n1 x = rs_ev cq nq x * rs_ev ct nt x := hev1 x
                      have g2 : rs_ev c2 n2 x = rs_ev c1 n1 x - rs_ev ctl ntl x := hev2 x
                      have g3 : rs_ev c3 n3 x = -rs_ev c2 n2 x := hev3 x
                      show rs_ev c3 n3 x = rs_ev ctl ntl x - rs_ev cq nq x * rs_ev ct nt x
                      rw [g3, g2, g1]; grind
                    refine lv_astore (lv' := [(7, .ref r3), (0, .ref ec), (3, .int (nI (2 * w8))), (4, .ref a5), (5, .ref b5), (6, .ref a7), (9, .ref a6), (10, .ref b10), (12, .int (kI (rs_iv (cr 0))))]) hx hb dX2_runEuclideanAlgorithm_225 hl (by decide) rfl (fun ls hl => ?_)
                    refine lv_goto (tgt := 43) hx hb dX2_runEuclideanAlgorithm_227 (by decide) ?_
                    exact ih0 nr n5 nt n3 cr c5 ct c3 a5 b5 a7 r3 _ _ _ _ ls (by omega) hnew (by omega) (by omega) hlt5 hN5 hM5 hN7 hO3 hb7 (by omega) (by omega) (by omega) P4 P5 P6 Q3 hS (lv_sub hl [1, 2, 3, 4, 5, 0] rfl)
                  · refine lv_aload hx hb dX2_runEuclideanAlgorithm_131 (lv_at hl 3 rfl) ?_
                    refine rs_cVi (As := []) (rest := []) hx hb hml hown hts hK (hF.k0 (rs_S.X hS)) hS hA hl.1 (met_X4_isZero E l b5 n5 c5 hm51 (by omega)) vf_X4_isZero q246 ⟨by omega, by omega⟩ (fun _ _ z => z.elim) (fun _ z => z.elim) (rs_P.rc P5 hK) P5 rfl rfl (Nat.le_of_ble_eq_true rfl) ⟨by omega, by omega⟩ dX2_runEuclideanAlgorithm_133 (fun r H locs hX hp hS => ?_)
                    have P4 := P4.k0 hX
                    have P5 := P5.k0 hX
                    have P6 := P6.k0 hX
                    have P9 := P9.k0 hX
                    have P10 := P10.k0 hX
                    rcases hp with ⟨h8, hp⟩ | ⟨h8, hp⟩
                    · exact absurd h8 (hM5.2 (by omega))
                    · subst hp
                      refine rs_ifne (tgt := 210) hx hb dX2_runEuclideanAlgorithm_136 (by decide) (by omega) (fun h9 => ?_) (fun h9 => ?_)
                      · exact absurd rfl h9
                      · refine lv_aload hx hb dX2_runEuclideanAlgorithm_139 (lv_at hl 3 rfl) ?_
                        refine rs_cVi (As := []) (rest := []) hx hb hml hown hts hK (hF.k0 (rs_S.X hS)) hS hA hl.1 (met_X4_getDegree E l b5 n5 c5 (by omega)) vf_X4_getDegree q241 ⟨by omega, by omega⟩ (fun _ _ z => z.elim) (fun _ z => z.elim) (rs_P.rc P5 hK) P5 rfl rfl (Nat.le_of_ble_eq_true rfl) ⟨by omega, by omega⟩ dX2_runEuclideanAlgorithm_141 (fun r H locs hX hp hS => ?_)
                        have P4 := P4.k0 hX
                        have P5 := P5.k0 hX
                        have P6 := P6.k0 hX
                        have P9 := P9.k0 hX
                        have P10 := P10.k0 hX
                        subst hp
                        refine lv_aload hx hb dX2_runEuclideanAlgorithm_144 (lv_at hl 2 rfl) ?_
                        refine rs_cVi (As := []) (rest := [.int (nI (n5 - 1))]) hx hb hml hown hts hK (hF.k0 (rs_S.X hS)) hS hA hl.1 (met_X4_getDegree E l a5 nr cr (by omega)) vf_X4_getDegree q241 ⟨by omega, by omega⟩ (fun _ _ z => z.elim) (fun _ z => z.elim) (rs_P.rc P4 hK) P4 rfl rfl (Nat.le_of_ble_eq_true rfl) ⟨by omega, by omega⟩ dX2_runEuclideanAlgorithm_146 (fun r H locs hX hp hS => ?_)
                        have P4 := P4.k0 hX
                        have P5 := P5.k0 hX
                        have P6 := P6.k0 hX
                        have P9 := P9.k0 hX
                        have P10 := P10.k0 hX
                        subst hp
                        refine rs_isub hx hb dX2_runEuclideanAlgorithm_149 (by omega) ?_
                        refine rs_top (b := (n5 - nr)) (by omega) ?_
                        refine lv_istore (lv' := [(13, .int (nI (n5 - nr))), (0, .ref ec), (3, .int (nI (2 * w8))), (4, .ref a5), (5, .ref b5), (6, .ref a7), (9, .ref a6), (10, .ref b10), (12, .int (kI (rs_iv (cr 0))))]) hx hb dX2_runEuclideanAlgorithm_150 hl (by decide) rfl (fun ls hl => ?_)
                        refine lv_aload_n hx hb dX2_runEuclideanAlgorithm_152 rfl (lv_at hl 1 rfl) ?_
                        refine rs_ge hx hb hown hts hK (hE.k0 (rs_S.X hS)) dX2_runEuclideanAlgorithm_153 ?_
                        refine lv_aload hx hb dX2_runEuclideanAlgorithm_156 (lv_at hl 4 rfl) ?_
                        refine lv_aload hx hb dX2_runEuclideanAlgorithm_158 (lv_at hl 4 rfl) ?_
                        refine rs_cVi (As := []) (rest := [.ref b5, .ref (E.2.2 0)]) hx hb hml hown hts hK (hF.k0 (rs_S.X hS)) hS hA hl.1 (met_X4_getDegree E l b5 n5 c5 (by omega)) vf_X4_getDegree q241 ⟨by omega, by omega⟩ (fun _ _ z => z.elim) (fun _ z => z.elim) (rs_P.rc P5 hK) P5 rfl rfl (Nat.le_of_ble_eq_true rfl) ⟨by omega, by omega⟩ dX2_runEuclideanAlgorithm_160 (fun r H locs hX hp hS => ?_)
                        have P4 := P4.k0 hX
                        have P5 := P5.k0 hX
                        have P6 := P6.k0 hX
                        have P9 := P9.k0 hX
                        have P10 := P10.k0 hX
                        subst hp
                        refine rs_cVi (As := [.int (nI (n5 - 1))]) (rest := [.ref (E.2.2 0)]) hx hb hml hown hts hK (hF.k0 (rs_S.X hS)) hS hA hl.1 (met_X4_getCoefficient E l b5 n5 (n5 - 1) c5 (by omega) (by omega)) vf_X4_getCoefficient q252 ⟨by omega, by omega⟩ (fun _ _ z => z.elim) (fun _ z => z.elim) (rs_P.rc P5 hK) P5 rfl rfl (Nat.le_of_ble_eq_true rfl) ⟨by omega, by omega⟩ dX2_runEuclideanAlgorithm_163 (fun r H locs hX hp hS => ?_)
                        have P4 := P4.k0 hX
                        have P5 := P5.k0 hX
                        have P6 := P6.k0 hX
                        have P9 := P9.k0 hX
                        have P10 := P10.k0 hX
                        subst hp
                        refine rs_top (b := (c5 0).val) (by rw [Nat.sub_self]) ?_
                        refine lv_iload hx hb dX2_runEuclideanAlgorithm_166 (lv_at hl 8 rfl) ?_
                        refine rs_cVi (As := [.int (kI (c5 0)), .int (kI (rs_iv (cr 0)))]) (rest := []) hx hb hml hown hts hK (hF.k0 (rs_S.X hS)) hS hA hl.1 (met_X3_multiply E l (c5 0) (rs_iv (cr 0))) vf_X3_multiply q273 ⟨by omega, by omega⟩ (fun _ _ z => z.elim) (fun _ z => z.elim) (rs_F.rc (hF.k0 (rs_S.X hS))) trivial rfl rfl (Nat.le_of_ble_eq_true rfl) ⟨by omega, by omega⟩ dX2_runEuclideanAlgorithm_168 (fun r H locs hX hp hS => ?_)
                        have P4 := P4.k0 hX
                        have P5 := P5.k0 hX
                        have P6 := P6.k0 hX
                        have P9 := P9.k0 hX
                        have P10 := P10.k0 hX
                        subst hp
                        obtain ⟨sc, hsc⟩ : ∃ sc, sc = c5 0 * rs_iv (cr 0) := ⟨_, rfl⟩
                        rw [← hsc]
                        have hsc0 : sc ≠ 0 := by rw [hsc]; exact rs_mul_ne h8 (rs_iv_ne _)
                        have hscl : sc * cr 0 = c5 0 := by
                          have h6 := rs_mul_iv h0
                          rw [hsc]
                          have h5 : c5 0 * rs_iv (cr 0) * cr 0 = c5 0 * (cr 0 * rs_iv (cr 0)) := by grind
                          rw [h5, h6]; grind
                        refine lv_istore (lv' := [(14, .int (kI sc)), (13, .int (nI (n5 - nr))), (0, .ref ec), (3, .int (nI (2 * w8))), (4, .ref a5), (5, .ref b5), (6, .ref a7), (9, .ref a6), (10, .ref b10), (12, .int (kI (rs_iv (cr 0))))]) hx hb dX2_runEuclideanAlgorithm_171 hl (by decide) rfl (fun ls hl => ?_)
                        refine lv_aload hx hb dX2_runEuclideanAlgorithm_173 (lv_at hl 8 rfl) ?_
                        refine lv_aload_n hx hb dX2_runEuclideanAlgorithm_175 rfl (lv_at hl 2 rfl) ?_
                        refine rs_ge hx hb hown hts hK (hE.k0 (rs_S.X hS)) dX2_runEuclideanAlgorithm_176 ?_
                        refine lv_iload hx hb dX2_runEuclideanAlgorithm_179 (lv_at hl 1 rfl) ?_
                        refine lv_iload hx hb dX2_runEuclideanAlgorithm_181 (lv_at hl 0 rfl) ?_
                        refine rs_cVr (As := [.int (nI (n5 - nr)), .int (kI sc)]) (rest := [.ref b10]) hx hb hml hown hts hK (hF.k0 (rs_S.X hS)) hS hA hl.1 (met_X3_buildMonomial E l (n5 - nr) sc hsc0 (by omega)) vf_X3_buildMonomial q229 ⟨by omega, by omega⟩ (fun _ _ z => z.elim) (fun _ z => z.elim) (rs_F.rc (hF.k0 (rs_S.X hS))) trivial rfl rfl (Nat.le_of_ble_eq_true rfl) ⟨by omega, by omega⟩ dX2_runEuclideanAlgorithm_183 (fun r1 t H locs hX hvm hp hS => ?_)
                        have P4 := P4.k0 hX
                        have P5 := P5.k0 hX
                        have P6 := P6.k0 hX
                        have P9 := P9.k0 hX
                        have P10 := P10.k0 hX
                        obtain ⟨n1, c1, Q1, hO1, hle1, hev1⟩ := hp
                        refine rs_cVr (As := [.ref r1]) (rest := []) hx hb hml hown hts hK (hF.k0 (rs_S.X hS)) hS hA hl.1 (met_X4_add E l b10 r1 nq n1 cq c1 (by omega) (by omega) hMq hO1) vf_X4_add q274 ⟨by omega, by omega⟩ (fun _ _ z => z.elim) (fun _ z => z.elim) (rs_P.rc P10 hK) (⟨P10, Q1⟩) rfl rfl (Nat.le_of_ble_eq_true rfl) ⟨by omega, by omega⟩ dX2_runEuclideanAlgorithm_186 (fun r2 t H locs hX hvm hp hS => ?_)
                        have P4 := P4.k0 hX
                        have P5 := P5.k0 hX
                        have P6 := P6.k0 hX
                        have P9 := P9.k0 hX
                        have P10 := P10.k0 hX
                        have Q1 := Q1.k0 hX
                        obtain ⟨n2, c2, Q2, hO2, hle2, hev2⟩ := hp
                        refine lv_astore (lv' := [(10, .ref r2), (14, .int (kI sc)), (13, .int (nI (n5 - nr))), (0, .ref ec), (3, .int (nI (2 * w8))), (4, .ref a5), (5, .ref b5), (6, .ref a7), (9, .ref a6), (12, .int (kI (rs_iv (cr 0))))]) hx hb dX2_runEuclideanAlgorithm_189 hl (by decide) rfl (fun ls hl => ?_)
                        refine lv_aload hx hb dX2_runEuclideanAlgorithm_191 (lv_at hl 6 rfl) ?_
                        refine lv_aload hx hb dX2_runEuclideanAlgorithm_193 (lv_at hl 5 rfl) ?_
                        refine lv_iload hx hb dX2_runEuclideanAlgorithm_195 (lv_at hl 2 rfl) ?_
                        refine lv_iload hx hb dX2_runEuclideanAlgorithm_197 (lv_at hl 1 rfl) ?_
                        refine rs_cVr (As := [.int (nI (n5 - nr)), .int (kI sc)]) (rest := [.ref b5]) hx hb hml hown hts hK (hF.k0 (rs_S.X hS)) hS hA hl.1 (met_X4_multiplyByMonomial E l a5 nr (n5 - nr) cr sc (by omega) (by omega)) vf_X4_multiplyByMonomial q278 ⟨by omega, by omega⟩ (fun _ _ z => z.elim) (fun _ z => z.elim) (rs_P.rc P4 hK) P4 rfl rfl (Nat.le_of_ble_eq_true rfl) ⟨by omega, by omega⟩ dX2_runEuclideanAlgorithm_199 (fun r3 t H locs hX hvm hp hS => ?_)
                        have P4 := P4.k0 hX
                        have P5 := P5.k0 hX
                        have P6 := P6.k0 hX
                        have P9 := P9.k0 hX
                        have P10 := P10.k0 hX
                        have Q1 := Q1.k0 hX
                        have Q2 := Q2.k0 hX
                        obtain ⟨n3, c3, Q3, hO3, hle3, hev3⟩ := hp
                        refine rs_cVr (As := [.ref r3]) (rest := []) hx hb hml hown hts hK (hF.k0 (rs_S.X hS)) hS hA hl.1 (met_X4_subtract E l b5 r3 n5 n3 c5 c3 (by omega) (by omega) hM5 hO3) vf_X4_subtract q282 ⟨by omega, by omega⟩ (fun _ _ z => z.elim) (fun _ z => z.elim) (rs_P.rc P5 hK) (⟨P5, Q3⟩) rfl rfl (Nat.le_of_ble_eq_true rfl) ⟨by omega, by omega⟩ dX2_runEuclideanAlgorithm_202 (fun r4 t H locs hX hvm hp hS => ?_)
                        have P4 := P4.k0 hX
                        have P5 := P5.k0 hX
                        have P6 := P6.k0 hX
                        have P9 := P9.k0 hX
                        have P10 := P10.k0 hX
                        have Q1 := Q1.k0 hX
                        have Q2 := Q2.k0 hX
                        have Q3 := Q3.k0 hX
                        obtain ⟨n4, c4, Q4, hO4, hle4, hev4⟩ := hp
                        have e4 : ∀ x, rs_ev c4 n4 x = rs_ev c5 n5 x - sc * (rs_pw x (n5 - nr) * rs_ev cr nr x) := fun x => by
                          have g1 : rs_ev c4 n4 x = rs_ev c5 n5 x - rs_ev c3 n3 x := hev4 x
                          have g2 : rs_ev c3 n3 x = sc * (rs_pw x (n5 - nr) * rs_ev cr nr x) := hev3 x
                          rw [g1, g2]
                        have hdrop : n4 < n5 := rs_drop (nL := nr) (d := n5 - nr) (by omega) (by omega) (by omega) (by omega) hscl hO4 (by omega) e4
                        have e5 : ∀ x, rs_ev c4 n4 x = rs_ev cl nl x - rs_ev c2 n2 x * rs_ev cr nr x := fun x => by
                          have g1 : rs_ev c2 n2 x = rs_ev cq nq x + rs_ev c1 n1 x := hev2 x
                          have g2 : rs_ev c1 n1 x = sc * rs_pw x (n5 - nr) := hev1 x
                          rw [e4 x, he5 x, g1, g2]; grind
                        refine lv_astore (lv' := [(5, .ref r4), (10, .ref r2), (14, .int (kI sc)), (13, .int (nI (n5 - nr))), (0, .ref ec), (3, .int (nI (2 * w8))), (4, .ref a5), (6, .ref a7), (9, .ref a6), (12, .int (kI (rs_iv (cr 0))))]) hx hb dX2_runEuclideanAlgorithm_205 hl (by decide) rfl (fun ls hl => ?_)
                        refine lv_goto (tgt := 118) hx hb dX2_runEuclideanAlgorithm_207 (by decide) ?_
                        exact ih n4 n2 c4 c2 r4 r2 _ _ _ _ ls (by omega) (by omega) (by omega) e5 hO4 hO2 (by omega) (by omega) P4 Q4 P6 P9 Q2 hS (lv_sub hl [4, 5, 6, 0, 7, 8, 1, 9] rfl)
              exact inner nl nl 1 cl (fun _ => 0) a4 (E.2.2 3) _ _ _ _ ls (Nat.le_refl _) (Nat.le_refl _) (by omega) (fun x => by rw [rs_ev_z 1 (fun _ _ => rfl)]; grind) hN4 ⟨Nat.le_refl 1, fun z => absurd z (by decide)⟩ (by omega) (by omega) P5 P4 P7 P6 (rs_F.zero (hF.k0 (rs_S.X hS))) hS (lv_sub hl [8, 9, 5, 3, 4, 6, 2, 0] rfl)
            · exact absurd rfl h7
    exact loop nB nA nB 1 1 cA cB (fun _ => 0) (fun _ => 1) pa pb (E.2.2 3) (E.2.2 5) _ _ _ _ ls (Nat.le_refl _) (by
      rw [hnA]
      have h9 := rs_I_0 (2 * w8) (rs_sy (2 * w8) L) (rl := fun x => rs_ev cA (2 * w8 + 1) x) (tl := fun x => rs_ev (fun _ => 0) 1 x) (t := fun x => rs_ev (fun _ => 1) 1 x) (fun x => by rw [← hnA]; exact heA x) (fun x => rs_ev_z 1 (fun _ _ => rfl) x) (fun x => by show (0 : rsK) * x + 1 = 1; grind)
      have h8 : (fun x => rs_ev cB nB x) = rs_sy (2 * w8) L := funext heB
      rw [h8]; exact h9) (by omega) (by omega) (by omega) hNA hNB ⟨Nat.le_refl 1, fun z => absurd z (by decide)⟩ ⟨Nat.le_refl 1, fun z => absurd z (by decide)⟩ (by omega) (by omega) (by omega) (by omega) (hPA.k0 (rs_S.X hS)) (hPB.k0 (rs_S.X hS)) (rs_F.zero (hF.k0 (rs_S.X hS))) (rs_F.one (hF.k0 (rs_S.X hS))) hS (lv_sub hl [4, 7, 3, 2, 1, 0] rfl)
  · exact absurd h1 (by omega)
end
section
/-! ErrorCorrection: its constructor, decode -/
section RSG
variable {p : Program} {l : Launch} {e : Env} {R : Room} {s : State} {m : MethodId} {args : Array Value} {below : List Frame} {meth : Method} {c : Code} {H : Heap} {locs : List Loc} {cells slots : Nat} {Q : State → Prop} {cc : ByteArray} {pc : Nat} {ls : Array Slot} {rest : List Value}
theorem rs_gets (hexec : p.tables.exec = Jvm.exec) (hb : c.code = cc) {C n d own : String} {v : Value} {index : Nat} {B : Nat → Prop} (hZ : va_Z C n d v B s H) (hown : s.vm.findClass own = some m.cls) (hlink : (Cond.fieldLink own index C n d).before args s = true) (hdg : decode cc pc = .ok (.getstatic index, 3))
    (kk : W p l e R s m args below meth c H locs cells slots Q (F0 m (pc + 3) ls (v :: rest))) : W p l e R s m args below meth c H locs cells slots Q (F0 m pc ls rest) := by
  obtain ⟨cf, kf, fi, f, a, cell, h1, h2, h3, h4, h5, h6, h7, h8⟩ := hZ
  exact W.gets hexec hb hown hlink h1 h2 h3 h4 h5 (fun e => by rw [e] at h6; cases h6) h7 rfl hdg kk
end RSG
set_option maxHeartbeats 4000000 in
set_option maxRecDepth 100000 in
theorem met_X2_init (E : rsE) (l : Launch) (o : Nat) : rs_Cv E l yX2_init cX2_init 1 ⟨1, 0, 0, 30⟩ (fun q => q = o) [.ref o] (fun H => rs_O E H o 1 [.null]) (fun H => rs_O E H o 1 [.ref (E.2.2 0)]) := by
  refine rs_goV (by decide) (Nat.le_of_ble_eq_true rfl) (fun p e R s m args below meth c Q hx hb hml hown hts hnm hK hF hpre hRf hRc hRs hRl hA hS hret ls hl => ?_)
  have hl : lv_has ls 1 [(0, .ref o)] := hl
  have hO := hpre
  refine lv_aload_n hx hb dX2_init_0 rfl (lv_at hl 0 rfl) ?_
  refine W.objInit hx hb hown (hts _ q30) (hts _ q23) (hts _ q24) rfl (by rw [hml]; exact hl.1) rfl dX2_init_1 (by omega) (by rw [hRl]; exact Nat.le_of_ble_eq_true rfl) ?_
  refine W.eq (g2 := F0 m 4 ls []) rfl ?_
  refine lv_aload_n hx hb dX2_init_4 rfl (lv_at hl 0 rfl) ?_
  refine rs_gets hx hb hF.2.2.2.2.2.2.2.2.2.2.2.2 hown (hts _ q31) dX2_init_5 ?_
  refine rs_putF (C := RX2) (T := TX2) (N := 1) (ci := 1) (ty := (.object "ModulusGF")) (v := .ref (E.2.2 0)) hx hb hts in_X2 tyX2 tyX2_ok nmX2 hown hK hS (Or.inl rfl) hO rfl 0 (by decide) (hts _ q33) (fun _ h9 => h9) rfl hnm rfl (by decide +kernel) rfl rfl (Nat.le_of_ble_eq_true rfl) dX2_init_8 (fun H locs hO ho hz hS => ?_)
  exact hret _ _ _ _ _ _ hS dX2_init_11 (by omega) (by omega) hO

/-- what the decoder reads off a word with errors -/
theorem rs_T (d er : Nat → rsK) {N R : Nat} (hs : ∀ i, 1 ≤ i → i ≤ R → rs_ev (fun j => d j - er j) N (rs_x i) = 0) (i : Nat) (h1 : 1 ≤ i) (h2 : i ≤ R) : rs_ev d N (rs_x i) = rs_sv i (rs_el er N N) := by
  have h3 := rs_ev_ad (fun j => d j - er j) er N (rs_x i)
  rw [rs_ev_cg N (d := d) (fun j _ => by grind) (rs_x i), hs i h1 h2] at h3
  rw [h3, rs_el_syn]; grind
theorem rs_S_ev (d er : Nat → rsK) {N R : Nat} (hs : ∀ i, 1 ≤ i → i ≤ R → rs_ev (fun j => d j - er j) N (rs_x i) = 0) (x : rsK) : rs_ev (fun j => rs_ev d N (rs_x (R - j))) R x = rs_sy R (rs_el er N N) x := by
  rw [rs_ev_cg R (d := fun j => rs_sv (R - j) (rs_el er N N)) (fun j hj => rs_T d er hs (R - j) (by omega) (by omega)) x]
  exact rs_sv_sy R x _
/-- no syndrome: no error -/
theorem rs_clean (d er : Nat → rsK) {N w8 : Nat} (hN : N ≤ 900) (hw : w8 ≤ 8) (hs : ∀ i, 1 ≤ i → i ≤ 2 * w8 → rs_ev (fun j => d j - er j) N (rs_x i) = 0) (hc : (rs_el er N N).length ≤ w8) (h0 : ∀ j, j < 2 * w8 → rs_ev d N (rs_x (2 * w8 - j)) = 0) : (rs_el er N N).length = 0 ∧ ∀ j, j < N → er j = 0 := by
  have h1 : rs_el er N N = [] := rs_none (k := w8) (rs_el_ok (by omega)) hc hw (fun x => by
    rw [← rs_S_ev d er hs x]
    exact rs_ev_z _ h0 x)
  refine ⟨by rw [h1]; rfl, fun j hj => ?_⟩
  apply Classical.byContradiction
  intro h2
  have h3 := rs_el_in (c := er) (N := N) h2 hj
  rw [h1] at h3
  cases h3
theorem rs_dirty (d er : Nat → rsK) {N R : Nat} (hs : ∀ i, 1 ≤ i → i ≤ R → rs_ev (fun j => d j - er j) N (rs_x i) = 0) {j : Nat} (hj : j < R) (h0 : rs_ev d N (rs_x (R - j)) ≠ 0) : 1 ≤ (rs_el er N N).length := by
  apply Classical.byContradiction
  intro h1
  have h2 : rs_el er N N = [] := List.length_eq_zero_iff.mp (by omega)
  apply h0
  rw [rs_T d er hs (R - j) (by omega) (by omega), h2]
  rfl
/-- every error's place is found -/
theorem rs_found {L : List (rsK × rsK)} {v : Nat} {G : Nat → rsK} (hv : L.length = v) (hG : ∀ j, j < v → G j ≠ 0 ∧ ∃ q ∈ L, q.1 = G j) (hd : ∀ a b, a < b → b < v → G a ≠ G b) {q : rsK × rsK} (hq : q ∈ L) : ∃ a, a < v ∧ G a = q.1 := by
  have hnd : ((List.range v).map G).Nodup := by
    have h1 : ∀ n, n ≤ v → ((List.range n).map G).Nodup := by
      intro n
      induction n with
      | zero => intro _; exact List.nodup_nil
      | succ n ih =>
        intro hn
        rw [List.range_succ, List.map_append]
        refine List.nodup_append.mpr ⟨ih (by omega), by simp, ?_⟩
        intro a ha b hb e
        obtain ⟨x, hx, h2⟩ := List.mem_map.mp ha
        have hx := List.mem_range.mp hx
        have hb : b = G n := by simpa using hb
        exact hd x n hx (by omega) (by rw [h2, e, hb])
    exact h1 v (Nat.le_refl v)
  have h2 := rs_ph2 (l := (List.range v).map G) (m := L.map Prod.fst) hnd (fun x hx => by
    obtain ⟨j, hj, e⟩ := List.mem_map.mp hx
    obtain ⟨-, p, hp, h3⟩ := hG j (List.mem_range.mp hj)
    exact List.mem_map.mpr ⟨p, hp, by rw [h3, e]⟩) (by rw [List.length_map, List.length_map, List.length_range, hv]; omega)
  obtain ⟨a, ha, e⟩ := List.mem_map.mp (h2 q.1 (List.mem_map.mpr ⟨q, hq, rfl⟩))
  exact ⟨a, List.mem_range.mp ha, e⟩
set_option maxHeartbeats 4000000 in
set_option maxRecDepth 100000 in
theorem met_X2_decode (E : rsE) (l : Launch) (ec b b3 N w8 v : Nat) (d er z3 : Nat → rsK) (hw1 : 1 ≤ w8) (hw8 : w8 ≤ 8) (hN1 : 1 ≤ N) (hN : N ≤ 100) (hs : ∀ i, 1 ≤ i → i ≤ 2 * w8 → rs_ev (fun j => d j - er j) N (rs_x i) = 0) (hv : (rs_el er N N).length = v) (hvw : v ≤ w8) : rs_Ci E l yX2_decode cX2_decode 16 .int ⟨5, 5100, 291000, 135⟩ (fun q => q = b) [.ref ec, .ref b, .int (nI (2 * w8)), .ref b3] (fun H => rs_O E H ec 1 [.ref (E.2.2 0)] ∧ rs_A E H b N d ∧ rs_A E H b3 0 z3 ∧ ec ≠ b ∧ b3 ≠ b ∧ ∀ i, i < 8 → b ≠ E.2.2 i) (fun r H => r = nI v ∧ rs_A E H b N (fun j => d j - er j)) := by
  refine rs_goI (by decide) (Nat.le_of_ble_eq_true rfl) (fun p e R s m args below meth c Q hx hb hml hown hts hnm hK hF hpre hRf hRc hRs hRl hA hS hret ls hl => ?_)
  have hl : lv_has ls 16 [(0, .ref ec), (1, .ref b), (2, .int (nI (2 * w8))), (3, .ref b3)] := hl
  obtain ⟨hE, hB, h3, hecb, hb3b, hbi⟩ := hpre
  have hL : rs_ok (rs_el er N N) := rs_el_ok (by omega)
  refine rs_newp hx hb hown hts hK hS hA q94 (by omega) (by omega) dX2_decode_0 (fun o H hq_o hs_o hO1 hX hz_o hS => ?_)
  have ne_b_o : b ≠ o := by rw [hq_o]; exact Nat.ne_of_lt (rs_A.lt hB)
  have hB := hB.k0 hX
  refine lv_dup hx hb dX2_decode_3 rfl ?_
  refine lv_aload_n hx hb dX2_decode_4 rfl (lv_at hl 0 rfl) ?_
  refine rs_ge hx hb hown hts hK (hE.kept (rs_S.X hS) hecb) dX2_decode_5 ?_
  refine lv_aload_n hx hb dX2_decode_8 rfl (lv_at hl 1 rfl) ?_
  refine rs_cI (n := 2) (As := [.ref (E.2.2 0), .ref b]) (rest := [.ref o]) hx hb hml hown hts hK (hF.kept (rs_S.X hS) (fun i9 h9 z => hbi i9 h9 z.symm)) hS hA hl.1 (met_X4_init E l o b N d (by omega) (by omega)) ⟨by decide, by decide, by decide +kernel⟩ rfl q98 q8 q97 q96 ⟨by omega, by omega⟩ (fun q9 _ h9 => by rw [show q9 = o from h9]; exact hA _ hs_o) (fun q9 h9 => by rw [show q9 = o from h9]; exact rs_O.lt hO1) ⟨hO1, hB, ne_b_o.symm⟩ rfl rfl (Nat.le_of_ble_eq_true rfl) ⟨by omega, by omega⟩ dX2_decode_9 (fun H locs hX hp hS => ?_)
  have hB := hB.kept hX (fun z => ne_b_o z)
  obtain ⟨n2, c2, hp2, hN2, hle2, hev2⟩ := hp
  obtain ⟨bo, hOo, hCo⟩ := hp2
  have hn21 := hN2.1
  refine lv_astore (lv' := [(4, .ref o), (0, .ref ec), (1, .ref b), (2, .int (nI (2 * w8))), (3, .ref b3)]) hx hb dX2_decode_12 hl (by decide) rfl (fun ls hl => ?_)
  refine lv_iload_n hx hb dX2_decode_14 rfl (lv_at hl 3 rfl) ?_
  refine rs_newa (n := (2 * w8)) hx hb hK hts hS (by omega) (by omega) (by omega) dX2_decode_15 (fun q H hq_q hs_q hU hX hz_q hS => ?_)
  have ne_b_q : b ≠ q := by rw [hq_q]; exact Nat.ne_of_lt (rs_A.lt hB)
  have ne_o_q : o ≠ q := by rw [hq_q]; exact Nat.ne_of_lt (rs_O.lt hOo)
  have ne_bo_q : bo ≠ q := by rw [hq_q]; exact Nat.ne_of_lt (rs_A.lt hCo)
  have hB := hB.k0 hX
  have hOo := hOo.k0 hX
  have hCo := hCo.k0 hX
  refine lv_astore (lv' := [(5, .ref q), (4, .ref o), (0, .ref ec), (1, .ref b), (2, .int (nI (2 * w8))), (3, .ref b3)]) hx hb dX2_decode_17 hl (by decide) rfl (fun ls hl => ?_)
  refine lv_iconst (v := nI 0) hx hb dX2_decode_19 (by decide) ?_
  refine lv_istore (lv' := [(6, .int (nI 0)), (5, .ref q), (4, .ref o), (0, .ref ec), (1, .ref b), (2, .int (nI (2 * w8))), (3, .ref b3)]) hx hb dX2_decode_20 hl (by decide) rfl (fun ls hl => ?_)
  refine lv_iload_n hx hb dX2_decode_22 rfl (lv_at hl 5 rfl) ?_
  refine lv_istore (lv' := [(7, .int (nI (2 * w8))), (6, .int (nI 0)), (5, .ref q), (4, .ref o), (0, .ref ec), (1, .ref b), (2, .int (nI (2 * w8))), (3, .ref b3)]) hx hb dX2_decode_23 hl (by decide) rfl (fun ls hl => ?_)
  have loop : ∀ (k : Nat) (i fl : Nat) (u : Nat → rsK) (H : Heap) (locs : List Loc) (ls : Array Slot), i = k → i ≤ 2 * w8 → (∀ j, j < 2 * w8 - i → u j = rs_ev d N (rs_x (2 * w8 - j))) → (fl = 0 ∧ ∀ j, j < 2 * w8 - i → rs_ev d N (rs_x (2 * w8 - j)) = 0) ∨ (fl = 1 ∧ ∃ j, j < 2 * w8 - i ∧ rs_ev d N (rs_x (2 * w8 - j)) ≠ 0) → rs_A E H b N d → rs_O E H o 0 [.ref (E.2.2 0), .ref bo] → rs_A E H bo n2 c2 → rs_A E H q (2 * w8) u → va_S (rs_W0 (fun q => q = b) s.heap.size) s.heap H locs → lv_has ls 16 [(0, .ref ec), (1, .ref b), (2, .int (nI (2 * w8))), (3, .ref b3), (4, .ref o), (5, .ref q), (6, .int (nI fl)), (7, .int (nI i))] → W p l e R s m args below meth c H locs (0 + 1 + 1 + 1) (0 + 2 + 100 + 2 * w8) Q (F0 m 25 ls []) := by
    intro k
    induction k with
    | zero =>
      intro i fl u H locs ls hk hi hu hfl hB hOo hCo hU hS hl
      subst hk
      refine lv_iload hx hb dX2_decode_25 (lv_at hl 7 rfl) ?_
      refine rs_ifle (tgt := 69) hx hb dX2_decode_27 (by decide) (by omega) (fun h3c => ?_) (fun h3c => ?_)
      · have hU := rs_A.cg (df := fun j => rs_ev d N (rs_x (2 * w8 - j))) hU (fun j hj => hu j (by omega))
        refine lv_iload hx hb dX2_decode_69 (lv_at hl 6 rfl) ?_
        rcases hfl with ⟨rfl, hfl⟩ | ⟨rfl, hfl⟩
        · refine rs_ifne (tgt := 76) hx hb dX2_decode_71 (by decide) (by omega) (fun h4 => ?_) (fun h4 => ?_)
          · exact absurd rfl h4
          · refine lv_iconst (v := nI 0) hx hb dX2_decode_74 (by decide) ?_
            obtain ⟨hv0, her⟩ := rs_clean d er (by omega) hw8 hs (by omega) (fun j hj => hfl j (by omega))
            exact hret _ _ _ _ _ _ _ hS dX2_decode_75 rfl (by omega) (by omega) ⟨(by rw [← hv, hv0]), rs_A.cg hB (fun j hj => by rw [her j hj]; grind)⟩
        · refine rs_ifne (tgt := 76) hx hb dX2_decode_71 (by decide) (by omega) (fun h4 => ?_) (fun h4 => ?_)
          · obtain ⟨jd, hjd, hjd2⟩ := hfl
            have hv1 : 1 ≤ (rs_el er N N).length := rs_dirty d er hs (by omega : jd < 2 * w8) hjd2
            refine lv_aload_n hx hb dX2_decode_76 rfl (lv_at hl 0 rfl) ?_
            refine rs_ge hx hb hown hts hK (hE.kept (rs_S.X hS) hecb) dX2_decode_77 ?_
            refine rs_cVr (As := []) (rest := []) hx hb hml hown hts hK (hF.kept (rs_S.X hS) (fun i9 h9 z => hbi i9 h9 z.symm)) hS hA hl.1 (met_X3_getOne E l) vf_X3_getOne q194 ⟨by omega, by omega⟩ (fun _ _ z => z.elim) (fun _ z => z.elim) (rs_F.rc (hF.kept (rs_S.X hS) (fun i9 h9 z => hbi i9 h9 z.symm))) trivial rfl rfl (Nat.le_of_ble_eq_true rfl) ⟨by omega, by omega⟩ dX2_decode_80 (fun r t H locs hX hvm hp hS => ?_)
            have hB := hB.k0 hX
            have hOo := hOo.k0 hX
            have hCo := hCo.k0 hX
            have hU := hU.k0 hX
            subst hp
            refine lv_astore (lv' := [(7, .ref (E.2.2 5)), (0, .ref ec), (1, .ref b), (2, .int (nI (2 * w8))), (3, .ref b3), (4, .ref o), (5, .ref q), (6, .int (nI 1))]) hx hb dX2_decode_83 hl (by decide) rfl (fun ls hl => ?_)
            refine lv_aload_n hx hb dX2_decode_85 rfl (lv_at hl 4 rfl) ?_
            refine lv_ifnull hx hb dX2_decode_86 ?_
            refine lv_aload_n hx hb dX2_decode_89 rfl (lv_at hl 4 rfl) ?_
            refine lv_astore (lv' := [(8, .ref b3), (7, .ref (E.2.2 5)), (0, .ref ec), (1, .ref b), (2, .int (nI (2 * w8))), (3, .ref b3), (4, .ref o), (5, .ref q), (6, .int (nI 1))]) hx hb dX2_decode_90 hl (by decide) rfl (fun ls hl => ?_)
            refine lv_aload hx hb dX2_decode_92 (lv_at hl 0 rfl) ?_
            refine rs_alen hx hb hK (h3.kept (rs_S.X hS) hb3b) dX2_decode_94 ?_
            refine lv_istore (lv' := [(9, .int (nI 0)), (8, .ref b3), (7, .ref (E.2.2 5)), (0, .ref ec), (1, .ref b), (2, .int (nI (2 * w8))), (3, .ref b3), (4, .ref o), (5, .ref q), (6, .int (nI 1))]) hx hb dX2_decode_95 hl (by decide) rfl (fun ls hl => ?_)
            refine lv_iconst (v := nI 0) hx hb dX2_decode_97 (by decide) ?_
            refine lv_istore (lv' := [(10, .int (nI 0)), (9, .int (nI 0)), (8, .ref b3), (7, .ref (E.2.2 5)), (0, .ref ec), (1, .ref b), (2, .int (nI (2 * w8))), (3, .ref b3), (4, .ref o), (5, .ref q), (6, .int (nI 1))]) hx hb dX2_decode_98 hl (by decide) rfl (fun ls hl => ?_)
            refine lv_iload hx hb dX2_decode_100 (lv_at hl 0 rfl) ?_
            refine lv_iload hx hb dX2_decode_102 (lv_at hl 1 rfl) ?_
            refine rs_cge (tgt := 178) hx hb dX2_decode_104 (by decide) (by omega) (by omega) (fun h5 => ?_) (fun h5 => ?_)
            · refine rs_newp hx hb hown hts hK hS hA q94 (by omega) (by omega) dX2_decode_178 (fun o2 H hq_o2 hs_o2 hO2 hX hz_o2 hS => ?_)
              have ne_b_o2 : b ≠ o2 := by rw [hq_o2]; exact Nat.ne_of_lt (rs_A.lt hB)
              have ne_q_o2 : q ≠ o2 := by rw [hq_o2]; exact Nat.ne_of_lt (rs_A.lt hU)
              have hB := hB.k0 hX
              have hU := hU.k0 hX
              refine lv_dup hx hb dX2_decode_181 rfl ?_
              refine lv_aload_n hx hb dX2_decode_182 rfl (lv_at hl 4 rfl) ?_
              refine rs_ge hx hb hown hts hK (hE.kept (rs_S.X hS) hecb) dX2_decode_183 ?_
              refine lv_aload hx hb dX2_decode_186 (lv_at hl 9 rfl) ?_
              refine rs_cI (n := 2) (As := [.ref (E.2.2 0), .ref q]) (rest := [.ref o2]) hx hb hml hown hts hK (hF.kept (rs_S.X hS) (fun i9 h9 z => hbi i9 h9 z.symm)) hS hA hl.1 (met_X4_init E l o2 q (2 * w8) (fun j => rs_ev d N (rs_x (2 * w8 - j))) (by omega) (by omega)) ⟨by decide, by decide, by decide +kernel⟩ rfl q98 q8 q97 q96 ⟨by omega, by omega⟩ (fun q9 _ h9 => by rw [show q9 = o2 from h9]; exact hA _ hs_o2) (fun q9 h9 => by rw [show q9 = o2 from h9]; exact rs_O.lt hO2) ⟨hO2, hU, ne_q_o2.symm⟩ rfl rfl (Nat.le_of_ble_eq_true rfl) ⟨by omega, by omega⟩ dX2_decode_188 (fun H locs hX hp hS => ?_)
              have hB := hB.kept hX (fun z => ne_b_o2 z)
              have hU := hU.kept hX (fun z => ne_q_o2 z)
              obtain ⟨n3, c3, hp3, hN3, hle3, hev3⟩ := hp
              have heB : ∀ x, rs_ev c3 n3 x = rs_sy (2 * w8) (rs_el er N N) x := fun x => by rw [hev3]; exact rs_S_ev d er hs x
              refine lv_astore (lv' := [(8, .ref o2), (10, .int (nI 0)), (9, .int (nI 0)), (7, .ref (E.2.2 5)), (0, .ref ec), (1, .ref b), (2, .int (nI (2 * w8))), (3, .ref b3), (4, .ref o), (5, .ref q), (6, .int (nI 1))]) hx hb dX2_decode_191 hl (by decide) rfl (fun ls hl => ?_)
              refine lv_aload_n hx hb dX2_decode_193 rfl (lv_at hl 4 rfl) ?_
              refine lv_aload_n hx hb dX2_decode_194 rfl (lv_at hl 4 rfl) ?_
              refine rs_ge hx hb hown hts hK (hE.kept (rs_S.X hS) hecb) dX2_decode_195 ?_
              refine lv_iload_n hx hb dX2_decode_198 rfl (lv_at hl 6 rfl) ?_
              refine lv_iconst (v := nI 1) hx hb dX2_decode_199 (by decide) ?_
              refine rs_cVr (As := [.int (nI (2 * w8)), .int (nI 1)]) (rest := [.ref ec]) hx hb hml hown hts hK (hF.kept (rs_S.X hS) (fun i9 h9 z => hbi i9 h9 z.symm)) hS hA hl.1 (met_X3_buildMonomial E l (2 * w8) 1 rs_ne10 (by omega)) vf_X3_buildMonomial q229 ⟨by omega, by omega⟩ (fun _ _ z => z.elim) (fun _ z => z.elim) (rs_F.rc (hF.kept (rs_S.X hS) (fun i9 h9 z => hbi i9 h9 z.symm))) trivial rfl rfl (Nat.le_of_ble_eq_true rfl) ⟨by omega, by omega⟩ dX2_decode_200 (fun r1 t H locs hX hvm hp hS => ?_)
              have hB := hB.k0 hX
              have hp3 := hp3.k0 hX
              obtain ⟨n1, c1, Q1, hO1, hle1, hev1⟩ := hp
              have hn1e : n1 = 2 * w8 + 1 := rs_mono_len rs_ne10 (by omega) hO1 hle1 hev1
              have heA : ∀ x, rs_ev c1 n1 x = rs_pw x (2 * w8) := fun x => by
                have h9 : rs_ev c1 n1 x = 1 * rs_pw x (2 * w8) := hev1 x
                rw [h9]; grind
              refine lv_aload hx hb dX2_decode_203 (lv_at hl 0 rfl) ?_
              refine lv_iload_n hx hb dX2_decode_205 rfl (lv_at hl 6 rfl) ?_
              refine rs_cVr (As := [.ref r1, .ref o2, .int (nI (2 * w8))]) (rest := []) hx hb hml hown hts hK (hF.kept (rs_S.X hS) (fun i9 h9 z => hbi i9 h9 z.symm)) hS hA hl.1 (met_X2_runEuclideanAlgorithm E l ec r1 o2 w8 n1 n3 c1 c3 (rs_el er N N) hw1 hw8 hL hv1 (by omega) hO1 hN3 hn1e hle3 heA heB) vf_X2_runEuclideanAlgorithm q237 ⟨by omega, by omega⟩ (fun _ _ z => z.elim) (fun _ z => z.elim) (rs_O.rc (hE.kept (rs_S.X hS) hecb) hK rfl) (⟨(hE.kept (rs_S.X hS) hecb), Q1, hp3⟩) rfl rfl (Nat.le_of_ble_eq_true rfl) ⟨by omega, by omega⟩ dX2_decode_206 (fun rq t H locs hX hvm hp hS => ?_)
              have hB := hB.k0 hX
              have hp3 := hp3.k0 hX
              have Q1 := Q1.k0 hX
              obtain ⟨cQ, f9, sg, om, no, cs, co, hKq, hR, hf0, hf1, Ps, hes, Po, hno1, hno, heo⟩ := hp
              have hKq := va_K.moved hvm.symm hKq
              rw [hv] at Ps hes
              refine lv_astore (lv' := [(9, .ref rq), (8, .ref o2), (10, .int (nI 0)), (7, .ref (E.2.2 5)), (0, .ref ec), (1, .ref b), (2, .int (nI (2 * w8))), (3, .ref b3), (4, .ref o), (5, .ref q), (6, .int (nI 1))]) hx hb dX2_decode_209 hl (by decide) rfl (fun ls hl => ?_)
              refine lv_aload hx hb dX2_decode_211 (lv_at hl 0 rfl) ?_
              refine lv_iconst (v := nI 0) hx hb dX2_decode_213 (by decide) ?_
              refine rs_aldq hx hb hKq hR hf0 (by decide) (by decide) dX2_decode_214 ?_
              refine lv_astore (lv' := [(10, .ref sg), (9, .ref rq), (8, .ref o2), (7, .ref (E.2.2 5)), (0, .ref ec), (1, .ref b), (2, .int (nI (2 * w8))), (3, .ref b3), (4, .ref o), (5, .ref q), (6, .int (nI 1))]) hx hb dX2_decode_215 hl (by decide) rfl (fun ls hl => ?_)
              refine lv_aload hx hb dX2_decode_217 (lv_at hl 1 rfl) ?_
              refine lv_iconst (v := nI 1) hx hb dX2_decode_219 (by decide) ?_
              refine rs_aldq hx hb hKq hR hf1 (by decide) (by decide) dX2_decode_220 ?_
              refine lv_astore (lv' := [(11, .ref om), (10, .ref sg), (9, .ref rq), (8, .ref o2), (7, .ref (E.2.2 5)), (0, .ref ec), (1, .ref b), (2, .int (nI (2 * w8))), (3, .ref b3), (4, .ref o), (5, .ref q), (6, .int (nI 1))]) hx hb dX2_decode_221 hl (by decide) rfl (fun ls hl => ?_)
              refine lv_aload_n hx hb dX2_decode_223 rfl (lv_at hl 5 rfl) ?_
              refine lv_aload hx hb dX2_decode_224 (lv_at hl 1 rfl) ?_
              refine rs_cVr (As := [.ref sg]) (rest := []) hx hb hml hown hts hK (hF.kept (rs_S.X hS) (fun i9 h9 z => hbi i9 h9 z.symm)) hS hA hl.1 (met_X2_findErrorLocations E l b ec sg v (rs_el er N N) cs hv hL (by omega) hes) vf_X2_findErrorLocations q298 ⟨by omega, by omega⟩ (fun _ _ z => z.elim) (fun _ z => z.elim) (rs_O.rc (hE.kept (rs_S.X hS) hecb) hK rfl) (⟨(hE.kept (rs_S.X hS) hecb), Ps, hB.lt⟩) rfl rfl (Nat.le_of_ble_eq_true rfl) ⟨by omega, by omega⟩ dX2_decode_226 (fun lo t H locs hX hvm hp hS => ?_)
              have hB := hB.k0 hX
              have Ps := Ps.k0 hX
              have Po := Po.k0 hX
              obtain ⟨hlob, G, hG, hG1, hG2⟩ := hp
              refine lv_astore (lv' := [(12, .ref lo), (11, .ref om), (10, .ref sg), (9, .ref rq), (8, .ref o2), (7, .ref (E.2.2 5)), (0, .ref ec), (1, .ref b), (2, .int (nI (2 * w8))), (3, .ref b3), (4, .ref o), (5, .ref q), (6, .int (nI 1))]) hx hb dX2_decode_229 hl (by decide) rfl (fun ls hl => ?_)
              refine lv_aload_n hx hb dX2_decode_231 rfl (lv_at hl 6 rfl) ?_
              refine lv_aload hx hb dX2_decode_232 (lv_at hl 1 rfl) ?_
              refine lv_aload hx hb dX2_decode_234 (lv_at hl 2 rfl) ?_
              refine lv_aload hx hb dX2_decode_236 (lv_at hl 0 rfl) ?_
              refine rs_cVr (As := [.ref om, .ref sg, .ref lo]) (rest := []) hx hb hml hown hts hK (hF.kept (rs_S.X hS) (fun i9 h9 z => hbi i9 h9 z.symm)) hS hA hl.1 (met_X2_findErrorMagnitudes E l b ec om sg lo v no (rs_el er N N) co cs G hv hL (by omega) (by omega) hno1 hno hes heo hG1) vf_X2_findErrorMagnitudes q306 ⟨by omega, by omega⟩ (fun _ _ z => z.elim) (fun _ z => z.elim) (rs_O.rc (hE.kept (rs_S.X hS) hecb) hK rfl) (⟨(hE.kept (rs_S.X hS) hecb), Po, Ps, hG, hB.lt⟩) rfl rfl (Nat.le_of_ble_eq_true rfl) ⟨by omega, by omega⟩ dX2_decode_238 (fun ma t H locs hX hvm hp hS => ?_)
              have hB := hB.k0 hX
              have Ps := Ps.k0 hX
              have Po := Po.k0 hX
              have hG := hG.k0 hX
              obtain ⟨hmab, M, hM, hM1⟩ := hp
              refine lv_astore (lv' := [(13, .ref ma), (12, .ref lo), (11, .ref om), (10, .ref sg), (9, .ref rq), (8, .ref o2), (7, .ref (E.2.2 5)), (0, .ref ec), (1, .ref b), (2, .int (nI (2 * w8))), (3, .ref b3), (4, .ref o), (5, .ref q), (6, .int (nI 1))]) hx hb dX2_decode_241 hl (by decide) rfl (fun ls hl => ?_)
              refine lv_iconst (v := nI 0) hx hb dX2_decode_243 (by decide) ?_
              refine lv_istore (lv' := [(14, .int (nI 0)), (13, .ref ma), (12, .ref lo), (11, .ref om), (10, .ref sg), (9, .ref rq), (8, .ref o2), (7, .ref (E.2.2 5)), (0, .ref ec), (1, .ref b), (2, .int (nI (2 * w8))), (3, .ref b3), (4, .ref o), (5, .ref q), (6, .int (nI 1))]) hx hb dX2_decode_244 hl (by decide) rfl (fun ls hl => ?_)
              have loop2 : ∀ (k : Nat) (i : Nat) (u : Nat → rsK) (H : Heap) (locs : List Loc) (ls : Array Slot), i + k = v → (∀ j, j < N → ∀ a, a < i → G a = rs_x (N - 1 - j) → u j = d j - er j) → (∀ j, j < N → (∀ a, a < i → G a ≠ rs_x (N - 1 - j)) → u j = d j) → rs_A E H b N u → rs_A E H lo v G → rs_A E H ma v M → va_S (rs_W0 (fun q => q = b) s.heap.size) s.heap H locs → lv_has ls 16 [(0, .ref ec), (1, .ref b), (12, .ref lo), (13, .ref ma), (14, .int (nI i))] → W p l e R s m args below meth c H locs (0 + 1 + 1 + 1 + 1 + 1 + 3 + 5000 + 1 + 4) (0 + 2 + 100 + 2 * w8 + 2 + 100 + 202 + 290000 + 50 + 252) Q (F0 m 246 ls []) := by
                intro k
                induction k with
                | zero =>
                  intro i u H locs ls hk2 ha1 ha2 hB hG hM hS hl
                  refine lv_iload hx hb dX2_decode_246 (lv_at hl 4 rfl) ?_
                  refine lv_aload hx hb dX2_decode_248 (lv_at hl 2 rfl) ?_
                  refine rs_alen hx hb hK hG dX2_decode_250 ?_
                  refine rs_cge (tgt := 308) hx hb dX2_decode_251 (by decide) (by omega) (by omega) (fun h6 => ?_) (fun h6 => ?_)
                  · refine lv_aload hx hb dX2_decode_308 (lv_at hl 2 rfl) ?_
                    refine rs_alen hx hb hK hG dX2_decode_310 ?_
                    exact hret _ _ _ _ _ _ _ hS dX2_decode_311 rfl (by omega) (by omega) ⟨rfl, rs_A.cg hB (fun j hj => by
                      by_cases he0 : er j = 0
                      · by_cases hx9 : ∃ a, a < i ∧ G a = rs_x (N - 1 - j)
                        · obtain ⟨a, ha, hga⟩ := hx9
                          exact ha1 j hj a ha hga
                        · rw [ha2 j hj (fun a ha hga => hx9 ⟨a, ha, hga⟩), he0]; grind
                      · obtain ⟨a, ha, hga⟩ := rs_found hv hG1 hG2 (rs_el_in (N := N) he0 hj)
                        exact ha1 j hj a (by omega) hga)⟩
                  · exact absurd h6 (by omega)
                | succ k ih =>
                  intro i u H locs ls hk2 ha1 ha2 hB hG hM hS hl
                  refine lv_iload hx hb dX2_decode_246 (lv_at hl 4 rfl) ?_
                  refine lv_aload hx hb dX2_decode_248 (lv_at hl 2 rfl) ?_
                  refine rs_alen hx hb hK hG dX2_decode_250 ?_
                  refine rs_cge (tgt := 308) hx hb dX2_decode_251 (by decide) (by omega) (by omega) (fun h6 => ?_) (fun h6 => ?_)
                  · exact absurd h6 (by omega)
                  · obtain ⟨hG0, q9, hq9, hqG⟩ := hG1 i (by omega)
                    obtain ⟨j0, hj0, hq90, her0⟩ := rs_el_mem (Nat.le_refl N) hq9
                    have hGi : G i = rs_x (N - 1 - j0) := by rw [← hqG, hq90]
                    have hlg : rs_lg (G i) = N - 1 - j0 := by rw [hGi]; exact rs_lg_x (by omega)
                    have hMi : M i = er j0 := by rw [hM1 i (by omega) q9 hq9 hqG, hq90]
                    have hu0 : u j0 = d j0 := ha2 j0 hj0 (fun a ha => by rw [← hGi]; exact hG2 a i ha (by omega))
                    refine lv_aload_n hx hb dX2_decode_254 rfl (lv_at hl 1 rfl) ?_
                    refine rs_alen hx hb hK hB dX2_decode_255 ?_
                    refine lv_iconst (v := nI 1) hx hb dX2_decode_256 (by decide) ?_
                    refine rs_isub hx hb dX2_decode_257 (by omega) ?_
                    refine lv_aload_n hx hb dX2_decode_258 rfl (lv_at hl 0 rfl) ?_
                    refine rs_ge hx hb hown hts hK (hE.kept (rs_S.X hS) hecb) dX2_decode_259 ?_
                    refine lv_aload hx hb dX2_decode_262 (lv_at hl 2 rfl) ?_
                    refine lv_iload hx hb dX2_decode_264 (lv_at hl 4 rfl) ?_
                    refine rs_iald hx hb hK hG (by omega) (by omega) dX2_decode_266 ?_
                    refine rs_cVi (As := [.int (kI (G i))]) (rest := [.int (nI (N - 1))]) hx hb hml hown hts hK (hF.kept (rs_S.X hS) (fun i9 h9 z => hbi i9 h9 z.symm)) hS hA hl.1 (met_X3_log E l (G i) hG0) vf_X3_log q310 ⟨by omega, by omega⟩ (fun _ _ z => z.elim) (fun _ z => z.elim) (rs_F.rc (hF.kept (rs_S.X hS) (fun i9 h9 z => hbi i9 h9 z.symm))) trivial rfl rfl (Nat.le_of_ble_eq_true rfl) ⟨by omega, by omega⟩ dX2_decode_267 (fun r H locs hX hp hS => ?_)
                    have hB := hB.k0 hX
                    have hG := hG.k0 hX
                    have hM := hM.k0 hX
                    subst hp
                    refine rs_isub hx hb dX2_decode_270 (by omega) ?_
                    refine rs_top (b := j0) (by rw [hlg]; omega) ?_
                    refine lv_istore (lv' := [(15, .int (nI j0)), (0, .ref ec), (1, .ref b), (12, .ref lo), (13, .ref ma), (14, .int (nI i))]) hx hb dX2_decode_271 hl (by decide) rfl (fun ls hl => ?_)
                    refine lv_iload hx hb dX2_decode_273 (lv_at hl 0 rfl) ?_
                    refine rs_ifge (tgt := 282) hx hb dX2_decode_275 (by decide) (by omega) ?_
                    refine lv_aload_n hx hb dX2_decode_282 rfl (lv_at hl 2 rfl) ?_
                    refine lv_iload hx hb dX2_decode_283 (lv_at hl 0 rfl) ?_
                    refine lv_aload_n hx hb dX2_decode_285 rfl (lv_at hl 1 rfl) ?_
                    refine rs_ge hx hb hown hts hK (hE.kept (rs_S.X hS) hecb) dX2_decode_286 ?_
                    refine lv_aload_n hx hb dX2_decode_289 rfl (lv_at hl 2 rfl) ?_
                    refine lv_iload hx hb dX2_decode_290 (lv_at hl 0 rfl) ?_
                    refine rs_iald hx hb hK hB (by omega) (by omega) dX2_decode_292 ?_
                    refine lv_aload hx hb dX2_decode_293 (lv_at hl 4 rfl) ?_
                    refine lv_iload hx hb dX2_decode_295 (lv_at hl 5 rfl) ?_
                    refine rs_iald hx hb hK hM (by omega) (by omega) dX2_decode_297 ?_
                    refine rs_cVi (As := [.int (kI (u j0)), .int (kI (M i))]) (rest := [.int (nI j0), .ref b]) hx hb hml hown hts hK (hF.kept (rs_S.X hS) (fun i9 h9 z => hbi i9 h9 z.symm)) hS hA hl.1 (met_X3_subtract E l (u j0) (M i)) vf_X3_subtract q198 ⟨by omega, by omega⟩ (fun _ _ z => z.elim) (fun _ z => z.elim) (rs_F.rc (hF.kept (rs_S.X hS) (fun i9 h9 z => hbi i9 h9 z.symm))) trivial rfl rfl (Nat.le_of_ble_eq_true rfl) ⟨by omega, by omega⟩ dX2_decode_298 (fun r H locs hX hp hS => ?_)
                    have hB := hB.k0 hX
                    have hG := hG.k0 hX
                    have hM := hM.k0 hX
                    subst hp
                    refine rs_iast hx hb hK (u j0 - M i) hB hS (Or.inl rfl) (by omega) (by omega) dX2_decode_301 (fun H locs hB ho hz hS => ?_)
                    have hG := hG.st ho hlob
                    have hM := hM.st ho hmab
                    refine lv_iinc (v := nI (i + 1)) (lv' := [(14, .int (nI (i + 1))), (15, .int (nI j0)), (0, .ref ec), (1, .ref b), (12, .ref lo), (13, .ref ma)]) hx hb dX2_decode_302 hl (k := 5) rfl (nI_1 _) (by decide) rfl (fun ls hl => ?_)
                    refine lv_goto (tgt := 246) hx hb dX2_decode_305 (by decide) ?_
                    exact ih (i + 1) (va_up u j0 (u j0 - M i)) _ _ ls (by omega) (fun j hj a ha hga => by
                      unfold va_up
                      by_cases hjj : j = j0
                      · rw [if_pos hjj, hu0, hMi, hjj]
                      · rw [if_neg hjj]
                        refine ha1 j hj a ?_ hga
                        rcases Nat.lt_or_ge a i with h8 | h8
                        · exact h8
                        · exfalso
                          have h9 : a = i := by omega
                          rw [h9, hGi] at hga
                          have := rs_x_inj (by omega) (by omega) hga
                          omega) (fun j hj hall => by
                      unfold va_up
                      by_cases hjj : j = j0
                      · exact absurd (by rw [hjj]; exact hGi) (hall i (by omega))
                      · rw [if_neg hjj]
                        exact ha2 j hj (fun a ha => hall a (by omega))) hB hG hM hS (lv_sub hl [2, 3, 4, 5, 0] rfl)
              exact loop2 v 0 d _ _ ls (by omega) (fun j hj a ha => absurd ha (by omega)) (fun j hj _ => rfl) hB hG hM hS (lv_sub hl [8, 9, 2, 1, 0] rfl)
            · exact absurd h5 (by omega)
          · exact absurd h4 (by decide)
      · exact absurd h3c (by omega)
    | succ k ih =>
      intro i fl u H locs ls hk hi hu hfl hB hOo hCo hU hS hl
      subst hk
      refine lv_iload hx hb dX2_decode_25 (lv_at hl 7 rfl) ?_
      refine rs_ifle (tgt := 69) hx hb dX2_decode_27 (by decide) (by omega) (fun h3c => ?_) (fun h3c => ?_)
      · exact absurd h3c (by omega)
      · refine lv_aload hx hb dX2_decode_30 (lv_at hl 4 rfl) ?_
        refine lv_aload_n hx hb dX2_decode_32 rfl (lv_at hl 0 rfl) ?_
        refine rs_ge hx hb hown hts hK (hE.kept (rs_S.X hS) hecb) dX2_decode_33 ?_
        refine lv_iload hx hb dX2_decode_36 (lv_at hl 7 rfl) ?_
        refine rs_cVi (As := [.int (nI (k + 1))]) (rest := [.ref o]) hx hb hml hown hts hK (hF.kept (rs_S.X hS) (fun i9 h9 z => hbi i9 h9 z.symm)) hS hA hl.1 (met_X3_exp E l (k + 1) (by omega)) vf_X3_exp q174 ⟨by omega, by omega⟩ (fun _ _ z => z.elim) (fun _ z => z.elim) (rs_F.rc (hF.kept (rs_S.X hS) (fun i9 h9 z => hbi i9 h9 z.symm))) trivial rfl rfl (Nat.le_of_ble_eq_true rfl) ⟨by omega, by omega⟩ dX2_decode_38 (fun r H locs hX hp hS => ?_)
        have hB := hB.k0 hX
        have hOo := hOo.k0 hX
        have hCo := hCo.k0 hX
        have hU := hU.k0 hX
        subst hp
        refine rs_cVi (As := [.int (kI (rs_x (k + 1)))]) (rest := []) hx hb hml hown hts hK (hF.kept (rs_S.X hS) (fun i9 h9 z => hbi i9 h9 z.symm)) hS hA hl.1 (met_X4_evaluateAt E l o n2 c2 (rs_x (k + 1)) hn21 (by omega)) vf_X4_evaluateAt q178 ⟨by omega, by omega⟩ (fun _ _ z => z.elim) (fun _ z => z.elim) (rs_O.rc hOo hK rfl) (⟨bo, hOo, hCo⟩) rfl rfl (Nat.le_of_ble_eq_true rfl) ⟨by omega, by omega⟩ dX2_decode_41 (fun r H locs hX hp hS => ?_)
        have hB := hB.k0 hX
        have hOo := hOo.k0 hX
        have hCo := hCo.k0 hX
        have hU := hU.k0 hX
        subst hp
        refine rs_top (b := (rs_ev d N (rs_x (k + 1))).val) (by rw [hev2]) ?_
        refine lv_istore (lv' := [(8, .int (kI (rs_ev d N (rs_x (k + 1))))), (0, .ref ec), (1, .ref b), (2, .int (nI (2 * w8))), (3, .ref b3), (4, .ref o), (5, .ref q), (6, .int (nI fl)), (7, .int (nI (k + 1)))]) hx hb dX2_decode_44 hl (by decide) rfl (fun ls hl => ?_)
        refine lv_aload hx hb dX2_decode_46 (lv_at hl 6 rfl) ?_
        refine lv_iload_n hx hb dX2_decode_48 rfl (lv_at hl 3 rfl) ?_
        refine lv_iload hx hb dX2_decode_49 (lv_at hl 8 rfl) ?_
        refine rs_isub hx hb dX2_decode_51 (by omega) ?_
        refine lv_iload hx hb dX2_decode_52 (lv_at hl 0 rfl) ?_
        refine rs_iast hx hb hK (rs_ev d N (rs_x (k + 1))) hU hS (hA _ hs_q) (by omega) (by omega) dX2_decode_54 (fun H locs hU ho hz hS => ?_)
        have hB := hB.st ho ne_b_q
        have hOo := hOo.st ho ne_o_q
        have hCo := hCo.st ho ne_bo_q
        refine lv_iload hx hb dX2_decode_55 (lv_at hl 0 rfl) ?_
        refine rs_ifeq (tgt := 63) hx hb dX2_decode_57 (by decide) (rs_lt _) (fun h5 => ?_) (fun h5 => ?_)
        · have h5 : rs_ev d N (rs_x (k + 1)) = 0 := rs_val_0.mp h5
          refine lv_iinc (v := nI k) (lv' := [(7, .int (nI k)), (8, .int (kI (rs_ev d N (rs_x (k + 1))))), (0, .ref ec), (1, .ref b), (2, .int (nI (2 * w8))), (3, .ref b3), (4, .ref o), (5, .ref q), (6, .int (nI fl))]) hx hb dX2_decode_63 hl (k := 8) rfl (pk_m1 _) (by decide) rfl (fun ls hl => ?_)
          refine lv_goto (tgt := 25) hx hb dX2_decode_66 (by decide) ?_
          exact ih k fl (va_up u (2 * w8 - (k + 1)) (rs_ev d N (rs_x (k + 1)))) _ _ ls rfl (by omega) (fun j hj => by
            unfold va_up
            by_cases hjk : j = 2 * w8 - (k + 1)
            · rw [if_pos hjk, show 2 * w8 - j = k + 1 by omega]
            · rw [if_neg hjk]; exact hu j (by omega)) (by
            rcases hfl with ⟨h6, h7⟩ | ⟨h6, j, hj, h7⟩
            · refine Or.inl ⟨h6, fun j hj => ?_⟩
              rcases Nat.lt_or_ge j (2 * w8 - (k + 1)) with h8 | h8
              · exact h7 j h8
              · rw [show 2 * w8 - j = k + 1 by omega]; exact h5
            · exact Or.inr ⟨h6, j, by omega, h7⟩) hB hOo hCo hU hS (lv_sub hl [2, 3, 4, 5, 6, 7, 8, 0] rfl)
        · have h5 : rs_ev d N (rs_x (k + 1)) ≠ 0 := fun z => h5 (rs_val_0.mpr z)
          refine lv_iconst (v := nI 1) hx hb dX2_decode_60 (by decide) ?_
          refine lv_istore (lv' := [(6, .int (nI 1)), (8, .int (kI (rs_ev d N (rs_x (k + 1))))), (0, .ref ec), (1, .ref b), (2, .int (nI (2 * w8))), (3, .ref b3), (4, .ref o), (5, .ref q), (7, .int (nI (k + 1)))]) hx hb dX2_decode_61 hl (by decide) rfl (fun ls hl => ?_)
          refine lv_iinc (v := nI k) (lv' := [(7, .int (nI k)), (6, .int (nI 1)), (8, .int (kI (rs_ev d N (rs_x (k + 1))))), (0, .ref ec), (1, .ref b), (2, .int (nI (2 * w8))), (3, .ref b3), (4, .ref o), (5, .ref q)]) hx hb dX2_decode_63 hl (k := 8) rfl (pk_m1 _) (by decide) rfl (fun ls hl => ?_)
          refine lv_goto (tgt := 25) hx hb dX2_decode_66 (by decide) ?_
          exact ih k 1 (va_up u (2 * w8 - (k + 1)) (rs_ev d N (rs_x (k + 1)))) _ _ ls rfl (by omega) (fun j hj => by
            unfold va_up
            by_cases hjk : j = 2 * w8 - (k + 1)
            · rw [if_pos hjk, show 2 * w8 - j = k + 1 by omega]
            · rw [if_neg hjk]; exact hu j (by omega)) (Or.inr ⟨rfl, 2 * w8 - (k + 1), by omega, by rw [show 2 * w8 - (2 * w8 - (k + 1)) = k + 1 by omega]; exact h5⟩) hB hOo hCo hU hS (lv_sub hl [3, 4, 5, 6, 7, 8, 1, 0] rfl)
  exact loop (2 * w8) (2 * w8) 0 (fun _ => 0) _ _ ls rfl (Nat.le_refl _) (fun j hj => absurd hj (by omega)) (Or.inl ⟨rfl, fun j hj => absurd hj (by omega)⟩) hB hOo hCo hU hS (lv_sub hl [4, 5, 6, 7, 3, 2, 1, 0] rfl)
end
section
/-! rows 3: calls of a method with handlers none of which is taken (four rows of kit/laws/EXCEPTIONS.to-paste), new objects -/
section VWCALL
variable {p : Program} {l : Launch} {e : Env} {R : Room} {s : State} {m : MethodId} {args : Array Value} {below : List Frame} {meth : Method} {c : Code} {T : State} {H : Heap} {locs : List Loc} {cells slots : Nat}
theorem vx_callVW (X : Stand p l e R s m args below meth c T locs cells slots) (hexec : p.tables.exec = Jvm.exec) {own C : String} {index : Nat} {y : MethodName} {bytes : ByteArray} {maxL : Nat} {ret : Option FieldType} {hh : List (Nat × Nat × Nat × Nat)}
    (hown : s.vm.findClass own = some m.cls) (hlink : (Cond.methodLink own index y).before args s = true) (hinst : (Cond.instanceMethod y).before args s = true) (hsel : (Cond.selects C y y).before args s = true)
    (hcode : (Cond.codeWith y bytes maxL ret hh).before args s = true) (hy : y.cls ≠ "java/lang/invoke/MethodHandle" ∧ y.cls ≠ "java/lang/invoke/VarHandle")
    {W9 : Nat} {Pre : Pt → Array Value → Prop} {Post : Pt → Array Value → Option Value → Pt → Prop} (hK : Back l R p e below s args y 3 W9 Pre Post)
    {b : Addr} {cellB : Cell} (hcell : T.heap[b]? = some cellB) (hobj : cellB.vm.isStatics = false) (hcls : s.vm.findClass C = some cellB.cls)
    {g : JFrame} (hg : g.method = m) (hsize : g.locals.size = c.maxLocals) {argsL rest : List Value} (hlen : ∀ sig, parseMethodDescriptor y.desc = some sig → argsL.length = sig.parameters.length)
    (hstack : g.stack = argsL.reverse ++ .ref b :: rest) (hW : 2 * g.monitorRoom + (rest.map fun v => v.category).sum ≤ W9) (hdg : decode c.code g.pc = .ok (.invokevirtual index, 3))
    (hpre : ∀ vm₁, s.WarmedH vm₁ → Pre ⟨T.setVm vm₁, locs, cells, slots⟩ (Value.ref b :: argsL).toArray) :
    ∃ (v : Option Value) (vm₁ : Vm) (B : Pt), s.WarmedH vm₁ ∧ Stand p l e R s m args below meth c B.U B.locs B.cells B.slots ∧ Post ⟨T.setVm vm₁, locs, cells, slots⟩ (Value.ref b :: argsL).toArray v B ∧
      ∀ target, Steps p.tables e below (B.U.setTop { g with pc := g.pc + 3, stack := v.toList ++ rest }) target → Steps p.tables e below (T.setTop g) target := by
  obtain ⟨mk, methM, hnamed, hmethM, hstM, habM⟩ := Cond.instanceMethod_spec hinst
  obtain ⟨m8, methM', cM, hn8, hmethM', -, -, -, -, -, -, hsigM⟩ := Cond.codeWith_spec hcode
  cases Option.some.inj (hn8.symm.trans hnamed)
  cases hmethM.symm.trans hmethM'
  obtain ⟨c2, r2, m2, q1, q2, q3, q4, kP, hkP, hkPi⟩ := Cond.selects_spec hsel
  cases hcls.symm.trans q1
  cases (State.methodFound?_of_named hnamed hy).symm.trans q2
  cases hnamed.symm.trans q3
  have hselP : selectMethod e.platform s.vm cellB.cls mk = .method mk := by rw [Launch.admits_selectMethod X.admits]; exact q4
  obtain ⟨vm₁, X₁, hstep₁⟩ := X.invokevirtual hexec hown hlink hnamed hmethM hstM hkP hkPi hy (a := b) (cell := cellB) hcell
    (fun z h => by rw [h] at hobj; cases hobj) hselP hmethM habM hkP hkPi (g := g) hg (argsL := argsL) (rest := rest) (hlen _ hsigM) hstack hdg
  obtain ⟨v, B, X', hpost, hsteps⟩ := hK m meth c ⟨T.setVm vm₁, locs, cells, slots⟩ { g with stack := rest } (.invokevirtual index) mk (Value.ref b :: argsL).toArray X₁ hg hsize hdg hW (X₁.named hnamed) (hpre vm₁ X₁.warmed)
  exact ⟨v, vm₁, B, X₁.warmed, X', hpost, fun target h => hstep₁ _ fun acts => by rw [doInvoke_state]; exact hsteps.trans h⟩
abbrev vx_CVW (R : Room) (s : State) (args : Array Value) (own C : String) (index : Nat) (y : MethodName) (bytes : ByteArray) (maxL : Nat) (ret : Option FieldType) (hh : List (Nat × Nat × Nat × Nat)) (ws : List Cond) (rm : Room) (mc ms n : Nat) : Prop :=
  (rm.cells = mc ∧ rm.slots = ms ∧ rm.frames + 1 ≤ R.frames ∧ 8 + (maxL + 11) + rm.locals ≤ R.locals ∧ (∀ w ∈ ws, ∀ (a' : Array Value) (U : State), s.WarmedH U.vm → w.before a' U = true) ∧ Cond.codeWith y bytes maxL ret hh ∈ ws) ∧
  (Cond.codeWith y bytes maxL ret hh).before args s = true ∧ (Cond.initialized y.cls).before args s = true ∧ (y.cls ≠ "java/lang/invoke/MethodHandle" ∧ y.cls ≠ "java/lang/invoke/VarHandle") ∧
  (∀ sig, parseMethodDescriptor y.desc = some sig → n = sig.parameters.length) ∧ (Cond.methodLink own index y).before args s = true ∧ (Cond.instanceMethod y).before args s = true ∧ (Cond.selects C y y).before args s = true
theorem vx_cwVW {own C : String} {index maxL mc ms : Nat} {y : MethodName} {bytes : ByteArray} {ret : Option FieldType} {hh : List (Nat × Nat × Nat × Nat)} {Ts ws ws' : List Cond} {rm : Room} (n : Nat) (ht : ∀ w ∈ Ts, w.before args s = true) (hT : GoodIn Ts (wsV own index C y ws)) (hw : ws = Cond.codeWith y bytes maxL ret hh :: ws') (hrc : rm.cells = mc) (hrs : rm.slots = ms)
    (hd : y.cls = C ∧ y.cls ≠ "java/lang/invoke/MethodHandle" ∧ y.cls ≠ "java/lang/invoke/VarHandle" ∧ (parseMethodDescriptor y.desc).map (fun d => d.parameters.length) = some n) (hR : rm.frames + 1 ≤ R.frames ∧ 8 + (maxL + 11) + rm.locals ≤ R.locals) :
    vx_CVW R s args own C index y bytes maxL ret hh ws rm mc ms n := by
  obtain ⟨hC, hd⟩ := hd
  subst hC
  have ok : ∀ w ∈ wsV own index y.cls y ws, w.before args s = true := fun w h => ht w (hT w h).1
  have hG : GoodIn Ts ws := fun w h => hT w (by unfold wsV; exact List.mem_append_right _ h)
  have hc : Cond.codeWith y bytes maxL ret hh ∈ ws := by rw [hw]; exact List.mem_cons_self
  refine ⟨⟨hrc, hrs, hR.1, hR.2, pay_in ht hG, hc⟩, ht _ (hG _ hc).1, ok _ (by simp [wsV]), ⟨hd.1, hd.2.1⟩, fun sig h => ?_, ok _ (by simp [wsV]), ok _ (by simp [wsV]), ok _ (by simp [wsV])⟩
  have h2 := hd.2.2
  rw [h] at h2
  exact (Option.some.inj h2).symm
theorem vx_runVW {y : MethodName} {bytes cc : ByteArray} {maxL nL mc ms n index : Nat} {ret : Option FieldType} {hh : List (Nat × Nat × Nat × Nat)} {ws : List Cond} {rm : Room} {Pc : Array Value → State → Prop} {Qc : Array Value → State → Outcome → State → Prop} {free : Addr → Prop} {Ts : List Cond} {own C : String} {b : Addr} {As rest : List Value} {g : JFrame}
    (S : CallFix p m c cc nL s args Ts own) (hM : Met l y ws rm Pc Qc mc ms free) (cw : vx_CVW R s args own C index y bytes maxL ret hh ws rm mc ms n) (hp : PreV s H C b Pc As)
    (hg : g.method = m) (hn : As.length = n) (hsize : g.locals.size = nL) (hstack : g.stack = As.reverse ++ .ref b :: rest) (hW : 2 * g.monitorRoom + (rest.map fun v => v.category).sum ≤ 8) (hdg : decode cc g.pc = .ok (.invokevirtual index, 3)) (hf : cells + mc ≤ R.cells ∧ slots + ms ≤ R.slots) :
    va_Run p l e R s m args below meth c H locs cells slots mc ms g rest (Qc (Value.ref b :: As).toArray) free := by
  obtain ⟨⟨hrc, hrs, hfr, hlo, hws, hcw⟩, hcode, hini, hy, hlen, hl, hin, hse⟩ := cw
  have hK : Back l R p e below s args y 3 8 (PreOf R mc ms Pc) (PostOf Qc mc ms free) := va_backW (hh := hh) (bytes := bytes) (maxL := maxL) (ret := ret) hM hp.1 hrc hrs hfr hlo hws hcw (fun a' U hW => word_at hW (Or.inl (by first | rfl | simp [Cond.onTables, Cond.keeps, Cond.steady])) hini)
  obtain ⟨hx, hb, hml, ho, -⟩ := S
  obtain ⟨-, ⟨cellB, hcB, hoB, hclB⟩, hPc⟩ := hp
  intro T hT X
  obtain ⟨v, vm₁, ⟨U', l2, c2, s2⟩, hW₁, X', ⟨g', mk, t, L, e1, e2, hq, h1, hL, h2, h3⟩, st⟩ := vx_callVW X hx (C := C) (hh := hh) (bytes := bytes) (maxL := maxL) (ret := ret) ho hl hin hse hcode hy hK (by rw [hT]; exact hcB) hoB hclB hg (hsize.trans hml.symm) (argsL := As) (rest := rest) (fun sig h => hn.trans (hlen sig h)) hstack hW (by rw [hb]; exact hdg)
    (fun vm₁ hW₁ => ⟨hf.1, hf.2, hPc (T.setVm vm₁) hT hW₁⟩)
  dsimp only [Pt.U, Pt.locs, Pt.cells, Pt.slots] at X' e1 e2 h1 h2 h3 st
  subst h1; subst h2; subst h3
  exact ⟨v, (T.setVm vm₁).calling g' mk (Value.ref b :: As).toArray, t, U', L, hT, X', hL, e1, e2, hq, st⟩
end VWCALL
theorem rs_startW {l : Launch} {y : MethodName} {cy : ByteArray} {mL sz : Nat} {ret : Option FieldType} {hh : List (Nat × Nat × Nat × Nat)} {rm : Room} {E : rsE} {pre : Heap → Prop} {av : List Value} {Qc : Array Value → State → Outcome → State → Prop} {mc ms : Nat} {free : Addr → Prop} (hy : plainName y.cls = true) (hlen : (lg_sl av).length ≤ mL)
    (body : ∀ (p : Program) (e : Env) (s : State) (m : MethodId) (below : List Frame) (meth : Method) (c : Code), p.tables.exec = Jvm.exec → c.code = cy → meth.sig.returnType = ret → meth.locks = false → c.maxLocals = mL → s.vm.findClass y.cls = some m.cls → (∀ w ∈ lw_all, w.before av.toArray s = true) → meth.name = y.name → s.heap.size = sz → rs_KK E s → rs_F E s s.heap → pre s.heap →
      ∀ ls : Array Slot, lv_has ls mL (lv_args 0 av) → W p l e rm s m av.toArray below meth c s.heap [] 0 0 (MQ below Qc av.toArray s mc ms free) (F0 m 0 ls [])) :
    Met l y (wsW_ y cy mL ret hh) rm (va_Pc av (rs_Pre E sz pre)) Qc mc ms free := by
  refine va_MetW (cc := cy) (maxL := mL) (ret := ret) (hh := hh) hy rfl ?_
  intro p e s m args below meth c s₁ B hml hv
  obtain ⟨rfl, hsz, hK, hF, hpre⟩ := hv
  have hts := atoms_spec (ws := wsW_ y cy mL ret hh) B.pre
  have hts : ∀ w ∈ lw_all, w.before _ s = true := fun w h => hts w (List.mem_cons_of_mem _ h)
  have hl := lv_entry av (n := mL) hlen
  rw [lg_entry_eq]
  exact body p e s m below meth c B.exec B.bytes B.returns B.notSynchronized hml (findClass_of_methodNamed B.named) hts (name_of_methodNamed B.named B.method).1 hsz hK hF hpre _ hl
def rs_CiW (E : rsE) (l : Launch) (y : MethodName) (cy : ByteArray) (mL : Nat) (rt : FieldType) (hh : List (Nat × Nat × Nat × Nat)) (rm : Room) (w : Nat → Prop) (av : List Value) (pre : Heap → Prop) (post : Int32 → Heap → Prop) : Prop :=
  ∀ sz, Met l y (wsW_ y cy mL (some rt) hh) rm (va_Pc av (rs_Pre E sz pre)) (va_Qi (fun (r u : Int32) => r = u) (fun u t => post u t.heap) (rs_W0 w sz)) rm.cells rm.slots (rs_W0 w sz)
theorem rs_goIW {E : rsE} {l : Launch} {y : MethodName} {cy : ByteArray} {mL fr ce sl lo : Nat} {rt : FieldType} {hh : List (Nat × Nat × Nat × Nat)} {w : Nat → Prop} {av : List Value} {pre : Heap → Prop} {post : Int32 → Heap → Prop} (hy : plainName y.cls = true) (hlen : (lg_sl av).length ≤ mL)
    (body : ∀ (p : Program) (e : Env) (R : Room) (s : State) (m : MethodId) (args : Array Value) (below : List Frame) (meth : Method) (c : Code) (Q : State → Prop), p.tables.exec = Jvm.exec → c.code = cy → c.maxLocals = mL → s.vm.findClass y.cls = some m.cls → (∀ w ∈ lw_all, w.before args s = true) → meth.name = y.name → rs_KK E s → rs_F E s s.heap → pre s.heap → R.frames = fr → R.cells = ce → R.slots = sl → R.locals = lo → (∀ q, s.heap.size ≤ q → rs_W0 w s.heap.size q) → va_S (rs_W0 w s.heap.size) s.heap s.heap [] →
      (∀ (H : Heap) (locs : List Loc) (cells slots pc : Nat) (ls : Array Slot) (v : Int32), va_S (rs_W0 w s.heap.size) s.heap H locs → decode cy pc = .ok (.ireturn, 1) → narrow rt (.int v) = .int v → cells ≤ ce → slots ≤ sl → post v H → W p l e R s m args below meth c H locs cells slots Q (F0 m pc ls [.int v])) →
      ∀ ls : Array Slot, lv_has ls mL (lv_args 0 av) → W p l e R s m args below meth c s.heap [] 0 0 Q (F0 m 0 ls [])) : rs_CiW E l y cy mL rt hh ⟨fr, ce, sl, lo⟩ w av pre post := by
  intro sz
  refine rs_startW hy hlen (fun p e s m below meth c hx hb hr hlk hml hown hts hnm hsz hK hF hpre ls hl => ?_)
  subst hsz
  exact body p e _ s m _ below meth c _ hx hb hml hown hts hnm hK hF hpre rfl rfl rfl rfl (fun q h => Or.inr h) va_S.rf (fun H locs cells slots pc ls v hS hdg hn h1 h2 hp => rs_reti hx hb hr hlk hS hn hdg h1 h2 hp) ls hl
section RSC3
variable {p : Program} {l : Launch} {e : Env} {R : Room} {s : State} {m : MethodId} {args : Array Value} {below : List Frame} {meth : Method} {c : Code} {H : Heap} {locs : List Loc} {cells slots : Nat} {Q : State → Prop} {cc : ByteArray} {pc : Nat} {ls : Array Slot} {rest st0 : List Value} {E : rsE} {A w : Nat → Prop} {own C : String} {idx n nL mL b fr ce sl lo : Nat} {y : MethodName} {cy : ByteArray} {rt : FieldType} {As : List Value} {pre : Heap → Prop}
theorem rs_cVW {hh : List (Nat × Nat × Nat × Nat)} {post : Int32 → Heap → Prop} (hx : p.tables.exec = Jvm.exec) (hb : c.code = cc) (hml : c.maxLocals = nL) (hown : s.vm.findClass own = some m.cls) (hts : ∀ w ∈ lw_all, w.before args s = true) (hK : rs_KK E s) (hF : rs_F E s H) (hS : va_S A s.heap H locs) (hA : ∀ q, s.heap.size ≤ q → A q) (hsz : ls.size = nL)
    (hM : rs_CiW E l y cy mL rt hh ⟨fr, ce, sl, lo⟩ w (.ref b :: As) pre post) (hd : y.cls = C ∧ y.cls ≠ "java/lang/invoke/MethodHandle" ∧ y.cls ≠ "java/lang/invoke/VarHandle" ∧ (parseMethodDescriptor y.desc).map (fun d => d.parameters.length) = some n) (h2 : Cond.instanceMethod y ∈ lw_all) (h3 : Cond.selects C y y ∈ lw_all) (h4 : Cond.initialized C ∈ lw_all) (h5 : Cond.codeWith y cy mL (some rt) hh ∈ lw_all) (hl : Cond.methodLink own idx y ∈ lw_all) (hR : fr + 1 ≤ R.frames ∧ 8 + (mL + 11) + lo ≤ R.locals) (hwA : ∀ q, q < H.size → w q → A q) (hwn : ∀ q, w q → q < H.size)
    (hr : rs_rc s H C b) (hp : pre H) (hn : As.length = n) (hst : st0 = As.reverse ++ .ref b :: rest) (hro : (rest.map fun v => v.category).sum ≤ 8) (hf : cells + ce ≤ R.cells ∧ slots + sl ≤ R.slots) (hdg : decode cc pc = .ok (.invokevirtual idx, 3))
    (kk : ∀ (r : Int32) (H1 : Heap) (locs1 : List Loc), rs_X w H H1 → post r H1 → va_S A s.heap H1 locs1 → W p l e R s m args below meth c H1 locs1 (cells + ce) (slots + sl) Q (F0 m (pc + 3) ls (.int r :: rest))) : W p l e R s m args below meth c H locs cells slots Q (F0 m pc ls st0) := by
  have hAll : ∀ q, rs_W0 w H.size q → A q := fun q h => by
    rcases h with h | h
    · exact hwA q (hwn q h) h
    · exact hA q (Nat.le_trans hS.1 h)
  refine va_calli (vx_runVW (As := As) (rest := rest) (b := b) ⟨hx, hb, hml, hown, hts⟩ (hM H.size) (vx_cwVW n hts (lw_VW hl h2 h3 h4 h5) rfl rfl rfl hd hR) ⟨rs_Pre.blind, hr, rs_Pre.now hK hF hp⟩ rfl hn hsz hst (lv_room hro) hdg hf) hS (fun q _ h => hAll q h) hAll (fun r u t H1 locs1 ht hvm hw1 hB hz1 hk1 hS1 => ?_)
  have hw1 : r = u := hw1
  subst hw1
  subst ht
  exact kk r t.heap locs1 (rs_xof hz1 hk1) hB hS1
theorem rs_newo {T : u_T} {N ci : Nat} (hx : p.tables.exec = Jvm.exec) (hb : c.code = cc) (hown : s.vm.findClass own = some m.cls) (hts : ∀ w ∈ lw_all, w.before args s = true) (hin : ∀ w ∈ u_ws C T N, w ∈ lw_all) (ty : Nat → FieldType) (hty : ∀ k, k < N → parseFieldDescriptor (T k).2.2.1 = some (ty k)) (hK : rs_KK E s) (hS : va_S A s.heap H locs) (hcl : Cond.classLink own idx C ∈ lw_all) (hinst : Cond.instantiable C N ∈ lw_all) (hini : Cond.initialized C ∈ lw_all) (hc : rsCl[ci]? = some (C, T, N)) {fs : List Value} (hfs : ∀ j, j < N → defaultValue (ty j) = vp_V fs j) (hcells : cells + 1 ≤ R.cells) (hslots : slots + N ≤ R.slots) (hdg : decode cc pc = .ok (.new idx, 3))
    (kk : ∀ (q : Nat) (H1 : Heap), q = H.size → s.heap.size ≤ q → rs_O E H1 q ci fs → rs_X rs_no H H1 → H1.size = H.size + 1 → va_S A s.heap H1 locs → W p l e R s m args below meth c H1 locs (cells + 1) (slots + N) Q (F0 m (pc + 3) ls (.ref q :: rest))) : W p l e R s m args below meth c H locs cells slots Q (F0 m pc ls rest) := by
  have hKn := hK.1.1 ci _ hc
  refine W.newcK hx hb hown (hts _ hcl) (hts _ hinst) (hts _ hini) rfl hdg hcells hslots hKn.2.1 rfl fun H1 kC hkC e1 z1 o1 => ?_
  have hX : rs_X rs_no H H1 := ⟨by omega, fun q hq _ => o1 q hq⟩
  refine kk H.size H1 rfl hS.1 ?_ hX z1 ⟨Nat.le_trans hS.1 hX.1, fun x h1 h2 => (o1 x (Nat.lt_of_lt_of_le h1 hS.1)).trans (hS.2.1 x h1 h2), hS.2.2⟩
  exact ⟨_, hc, (u_born ty hts hin hKn hkC e1 hty).to hfs⟩
end RSC3
/-- an int of the script, as a number below 929 -/
def rs_m (x : Int32) : Nat := x.toBitVec.toNat % 2 ^ 31
theorem rs_m_lt (x : Int32) : rs_m x < 2 ^ 31 := Nat.mod_lt _ (by decide)
theorem rs_and31 (x : Int32) : x &&& (2147483647 : Int32) = nI (rs_m x) := pk_and x 31 (by decide)
theorem rs_and31N {n : Nat} (h : n < 2 ^ 31) : rs_m (nI n) = n := by
  unfold rs_m
  rw [pk_tn (Nat.lt_trans h (by decide))]
  exact Nat.mod_eq_of_lt h
def rs_v (x : Int32) : rsK := rs_n (rs_m x)
def rs_w4 (x wd sn gt : Nat) : Nat → Prop := fun q => q = x ∨ q = wd ∨ q = sn ∨ q = gt
/-- the state of a PdfRepair: D data, X checks, made or not, its three arrays -/
def rs_Wd (E : rsE) (H : Heap) (x wk wd sn gt D X mk : Nat) (cw cs cg : Nat → rsK) : Prop :=
  rs_O E H x 2 [.ref wk, .ref wd, .ref sn, .ref gt, .int (nI D), .int (nI X), .int (nI mk)] ∧ rs_O E H wk 1 [.ref (E.2.2 0)] ∧ rs_A E H wd 64 cw ∧ rs_A E H sn 64 cs ∧ rs_A E H gt 64 cg
def rs_Di (E : rsE) (x wk wd sn gt : Nat) : Prop :=
  (x ≠ wk ∧ x ≠ wd ∧ x ≠ sn ∧ x ≠ gt) ∧ (wk ≠ wd ∧ wk ≠ sn ∧ wk ≠ gt) ∧ (wd ≠ sn ∧ wd ≠ gt) ∧ sn ≠ gt ∧ ∀ i, i < 8 → x ≠ E.2.2 i ∧ wd ≠ E.2.2 i ∧ sn ≠ E.2.2 i ∧ gt ≠ E.2.2 i
theorem rs_Di.sep {E : rsE} {x wk wd sn gt : Nat} (h : rs_Di E x wk wd sn gt) : ∀ i, i < 8 → ¬ rs_w4 x wd sn gt (E.2.2 i) := by
  intro i hi hw
  obtain ⟨h1, h2, h3, h4⟩ := h.2.2.2.2 i hi
  rcases hw with e | e | e | e
  · exact h1 e.symm
  · exact h2 e.symm
  · exact h3 e.symm
  · exact h4 e.symm
end
section
/-! PdfRepair: its small methods -/
set_option maxHeartbeats 4000000 in
set_option maxRecDepth 100000 in
theorem met_X1_init (E : rsE) (l : Launch) (x f9 : Nat) : rs_Cv E l yX1_init cX1_init 1 ⟨2, 4, 194, 60⟩ (fun q => q = x) [.ref x] (fun H => rs_O E H x 2 [.null, .null, .null, .null, .int (nI 0), .int (nI 0), .int (nI 0)] ∧ f9 ≤ H.size ∧ (∀ i, i < 8 → E.2.2 i < H.size) ∧ ∀ i, i < 8 → x ≠ E.2.2 i) (fun H => ∃ wk wd sn gt : Nat, rs_Wd E H x wk wd sn gt 0 4 0 (fun _ => 0) (fun _ => 0) (fun _ => 0) ∧ rs_Di E x wk wd sn gt ∧ f9 ≤ wk ∧ f9 ≤ wd ∧ f9 ≤ sn ∧ f9 ≤ gt ∧ wk < H.size ∧ wd < H.size ∧ sn < H.size ∧ gt < H.size) := by
  refine rs_goV (by decide) (Nat.le_of_ble_eq_true rfl) (fun p e R s m args below meth c Q hx hb hml hown hts hnm hK hF hpre hRf hRc hRs hRl hA hS hret ls hl => ?_)
  have hl : lv_has ls 1 [(0, .ref x)] := hl
  obtain ⟨hO, hf9, hai, hxi⟩ := hpre
  refine lv_aload_n hx hb dX1_init_0 rfl (lv_at hl 0 rfl) ?_
  refine W.objInit hx hb hown (hts _ q22) (hts _ q23) (hts _ q24) rfl (by rw [hml]; exact hl.1) rfl dX1_init_1 (by omega) (by rw [hRl]; exact Nat.le_of_ble_eq_true rfl) ?_
  refine W.eq (g2 := F0 m 4 ls []) rfl ?_
  refine lv_aload_n hx hb dX1_init_4 rfl (lv_at hl 0 rfl) ?_
  refine rs_newo (ci := 1) (fs := [.null]) (C := RX2) (T := TX2) (N := 1) hx hb hown hts in_X2 tyX2 tyX2_ok hK hS q25 q26 q6 rfl (fun j hj => by rcases (show j = 0 by omega) with rfl; rfl) (by omega) (by omega) dX1_init_5 (fun wk H hq_wk hs_wk hWk hX hz_wk hS => ?_)
  have ne_x_wk : x ≠ wk := by rw [hq_wk]; exact Nat.ne_of_lt (rs_O.lt hO)
  have hO := hO.k0 hX
  refine lv_dup hx hb dX1_init_8 rfl ?_
  refine rs_cI (n := 0) (As := []) (rest := [.ref wk, .ref x]) hx hb hml hown hts hK (hF.kept (rs_S.X hS) (fun i9 h9 z => hxi i9 h9 z.symm)) hS hA hl.1 (met_X2_init E l wk) ⟨by decide, by decide, by decide +kernel⟩ rfl q29 q6 q28 q27 ⟨by omega, by omega⟩ (fun q9 _ h9 => by rw [show q9 = wk from h9]; exact hA _ hs_wk) (fun q9 h9 => by rw [show q9 = wk from h9]; exact rs_O.lt hWk) hWk rfl rfl (Nat.le_of_ble_eq_true rfl) ⟨by omega, by omega⟩ dX1_init_9 (fun H locs hX hp hS => ?_)
  have hWk := hp
  have hO := hO.kept hX (fun z => ne_x_wk z)
  refine rs_putF (C := RX1) (T := TX1) (N := 7) (ci := 2) (ty := (.object "ErrorCorrection")) (v := .ref wk) hx hb hts in_X1 tyX1 tyX1_ok nmX1 hown hK hS (Or.inl rfl) hO rfl 0 (by decide) (hts _ q37) (fun _ h9 => h9) rfl hnm rfl (by decide +kernel) rfl rfl (Nat.le_of_ble_eq_true rfl) dX1_init_12 (fun H locs hO ho hz hS => ?_)
  have hO : rs_O E H x 2 [.ref wk, .null, .null, .null, .int (nI 0), .int (nI 0), .int (nI 0)] := hO
  have hWk := hWk.st ho ne_x_wk.symm
  refine lv_aload_n hx hb dX1_init_15 rfl (lv_at hl 0 rfl) ?_
  refine lv_bipush (v := nI 64) hx hb dX1_init_16 (by decide) ?_
  refine rs_newa (n := 64) hx hb hK hts hS (by omega) (by omega) (by omega) dX1_init_18 (fun wd H hq_wd hs_wd hWd hX hz_wd hS => ?_)
  have ne_x_wd : x ≠ wd := by rw [hq_wd]; exact Nat.ne_of_lt (rs_O.lt hO)
  have ne_wk_wd : wk ≠ wd := by rw [hq_wd]; exact Nat.ne_of_lt (rs_O.lt hWk)
  have hO := hO.k0 hX
  have hWk := hWk.k0 hX
  refine rs_putF (C := RX1) (T := TX1) (N := 7) (ci := 2) (ty := (.array .int)) (v := .ref wd) hx hb hts in_X1 tyX1 tyX1_ok nmX1 hown hK hS (Or.inl rfl) hO rfl 1 (by decide) (hts _ q38) (fun _ h9 => h9) rfl hnm rfl (by decide +kernel) rfl rfl (Nat.le_of_ble_eq_true rfl) dX1_init_20 (fun H locs hO ho hz hS => ?_)
  have hO : rs_O E H x 2 [.ref wk, .ref wd, .null, .null, .int (nI 0), .int (nI 0), .int (nI 0)] := hO
  have hWk := hWk.st ho ne_x_wk.symm
  have hWd := hWd.st ho ne_x_wd.symm
  refine lv_aload_n hx hb dX1_init_23 rfl (lv_at hl 0 rfl) ?_
  refine lv_bipush (v := nI 64) hx hb dX1_init_24 (by decide) ?_
  refine rs_newa (n := 64) hx hb hK hts hS (by omega) (by omega) (by omega) dX1_init_26 (fun sn H hq_sn hs_sn hSn hX hz_sn hS => ?_)
  have ne_x_sn : x ≠ sn := by rw [hq_sn]; exact Nat.ne_of_lt (rs_O.lt hO)
  have ne_wk_sn : wk ≠ sn := by rw [hq_sn]; exact Nat.ne_of_lt (rs_O.lt hWk)
  have ne_wd_sn : wd ≠ sn := by rw [hq_sn]; exact Nat.ne_of_lt (rs_A.lt hWd)
  have hO := hO.k0 hX
  have hWk := hWk.k0 hX
  have hWd := hWd.k0 hX
  refine rs_putF (C := RX1) (T := TX1) (N := 7) (ci := 2) (ty := (.array .int)) (v := .ref sn) hx hb hts in_X1 tyX1 tyX1_ok nmX1 hown hK hS (Or.inl rfl) hO rfl 2 (by decide) (hts _ q39) (fun _ h9 => h9) rfl hnm rfl (by decide +kernel) rfl rfl (Nat.le_of_ble_eq_true rfl) dX1_init_28 (fun H locs hO ho hz hS => ?_)
  have hO : rs_O E H x 2 [.ref wk, .ref wd, .ref sn, .null, .int (nI 0), .int (nI 0), .int (nI 0)] := hO
  have hWk := hWk.st ho ne_x_wk.symm
  have hWd := hWd.st ho ne_x_wd.symm
  have hSn := hSn.st ho ne_x_sn.symm
  refine lv_aload_n hx hb dX1_init_31 rfl (lv_at hl 0 rfl) ?_
  refine lv_bipush (v := nI 64) hx hb dX1_init_32 (by decide) ?_
  refine rs_newa (n := 64) hx hb hK hts hS (by omega) (by omega) (by omega) dX1_init_34 (fun gt H hq_gt hs_gt hGt hX hz_gt hS => ?_)
  have ne_x_gt : x ≠ gt := by rw [hq_gt]; exact Nat.ne_of_lt (rs_O.lt hO)
  have ne_wk_gt : wk ≠ gt := by rw [hq_gt]; exact Nat.ne_of_lt (rs_O.lt hWk)
  have ne_wd_gt : wd ≠ gt := by rw [hq_gt]; exact Nat.ne_of_lt (rs_A.lt hWd)
  have ne_sn_gt : sn ≠ gt := by rw [hq_gt]; exact Nat.ne_of_lt (rs_A.lt hSn)
  have hO := hO.k0 hX
  have hWk := hWk.k0 hX
  have hWd := hWd.k0 hX
  have hSn := hSn.k0 hX
  refine rs_putF (C := RX1) (T := TX1) (N := 7) (ci := 2) (ty := (.array .int)) (v := .ref gt) hx hb hts in_X1 tyX1 tyX1_ok nmX1 hown hK hS (Or.inl rfl) hO rfl 3 (by decide) (hts _ q40) (fun _ h9 => h9) rfl hnm rfl (by decide +kernel) rfl rfl (Nat.le_of_ble_eq_true rfl) dX1_init_36 (fun H locs hO ho hz hS => ?_)
  have hO : rs_O E H x 2 [.ref wk, .ref wd, .ref sn, .ref gt, .int (nI 0), .int (nI 0), .int (nI 0)] := hO
  have hWk := hWk.st ho ne_x_wk.symm
  have hWd := hWd.st ho ne_x_wd.symm
  have hSn := hSn.st ho ne_x_sn.symm
  have hGt := hGt.st ho ne_x_gt.symm
  refine lv_aload_n hx hb dX1_init_39 rfl (lv_at hl 0 rfl) ?_
  refine lv_iconst (v := nI 4) hx hb dX1_init_40 (by decide) ?_
  refine rs_put (C := RX1) (T := TX1) (N := 7) (ci := 2) (ty := .int) (v := .int (nI 4)) hx hb hts in_X1 tyX1 tyX1_ok nmX1 hown hK hS (Or.inl rfl) hO rfl 5 (by decide) (hts _ q42) (fun _ h9 => h9) rfl (by decide +kernel) (by first | rfl | decide) (by first | rfl | decide) (Nat.le_of_ble_eq_true rfl) dX1_init_41 (fun H locs hO ho hz hS => ?_)
  have hO : rs_O E H x 2 [.ref wk, .ref wd, .ref sn, .ref gt, .int (nI 0), .int (nI 4), .int (nI 0)] := hO
  have hWk := hWk.st ho ne_x_wk.symm
  have hWd := hWd.st ho ne_x_wd.symm
  have hSn := hSn.st ho ne_x_sn.symm
  have hGt := hGt.st ho ne_x_gt.symm
  exact hret _ _ _ _ _ _ hS dX1_init_44 (by omega) (by omega) ⟨wk, wd, sn, gt, ⟨hO, hWk, hWd, hSn, hGt⟩, ⟨⟨ne_x_wk, ne_x_wd, ne_x_sn, ne_x_gt⟩, ⟨ne_wk_wd, ne_wk_sn, ne_wk_gt⟩, ⟨ne_wd_sn, ne_wd_gt⟩, ne_sn_gt, fun i hi => ⟨hxi i hi, (by have := hai i hi; omega), (by have := hai i hi; omega), (by have := hai i hi; omega)⟩⟩, (by omega), (by omega), (by omega), (by omega), rs_O.lt hWk, rs_A.lt hWd, rs_A.lt hSn, rs_A.lt hGt⟩

set_option maxHeartbeats 4000000 in
set_option maxRecDepth 100000 in
theorem met_X1_put (E : rsE) (l : Launch) (x wk wd sn gt D X mk : Nat) (cw cs cg : Nat → rsK) (p0 : Int32) (hD : D < 40) : rs_Ci E l yX1_put cX1_put 2 .boolean ⟨0, 0, 0, 0⟩ (rs_w4 x wd sn gt) [.ref x, .int p0] (fun H => rs_Wd E H x wk wd sn gt D X mk cw cs cg ∧ rs_Di E x wk wd sn gt) (fun r H => r = nI 1 ∧ rs_Wd E H x wk wd sn gt (D + 1) X 0 (va_up cw D (rs_v p0)) cs cg) := by
  refine rs_goI (by decide) (Nat.le_of_ble_eq_true rfl) (fun p e R s m args below meth c Q hx hb hml hown hts hnm hK hF hpre hRf hRc hRs hRl hA hS hret ls hl => ?_)
  have hl : lv_has ls 2 [(0, .ref x), (1, .int p0)] := hl
  obtain ⟨⟨hO, hWk, hWd, hSn, hGt⟩, hDi⟩ := hpre
  obtain ⟨⟨n1, n2, n3, n4⟩, ⟨n5, n6, n7⟩, ⟨n8, n9⟩, n10, n11⟩ := id hDi
  refine lv_aload_n hx hb dX1_put_0 rfl (lv_at hl 0 rfl) ?_
  refine va_get (ci := 2) (v := .int (nI D)) (C := RX1) (T := TX1) (N := 7) hx hb hts in_X1 hown hK.1 (va_P1 hO) 0 rfl rfl 4 (by decide) (hts _ q41) (fun _ h9 => h9) rfl dX1_put_1 ?_
  refine lv_bipush (v := nI 40) hx hb dX1_put_4 (by decide) ?_
  refine rs_cne (tgt := 11) hx hb dX1_put_6 (by decide) (by omega) (by omega) (fun h1 => ?_) (fun h1 => ?_)
  · refine lv_aload_n hx hb dX1_put_11 rfl (lv_at hl 0 rfl) ?_
    refine va_get (ci := 2) (v := .ref wd) (C := RX1) (T := TX1) (N := 7) hx hb hts in_X1 hown hK.1 (va_P1 hO) 0 rfl rfl 1 (by decide) (hts _ q38) (fun _ h9 => h9) rfl dX1_put_12 ?_
    refine lv_aload_n hx hb dX1_put_15 rfl (lv_at hl 0 rfl) ?_
    refine va_get (ci := 2) (v := .int (nI D)) (C := RX1) (T := TX1) (N := 7) hx hb hts in_X1 hown hK.1 (va_P1 hO) 0 rfl rfl 4 (by decide) (hts _ q41) (fun _ h9 => h9) rfl dX1_put_16 ?_
    refine lv_iload_n hx hb dX1_put_19 rfl (lv_at hl 1 rfl) ?_
    refine lv_ldc hx hb hown (hts _ q64) dX1_put_20 ?_
    refine lv_iand hx hb dX1_put_22 ?_
    rw [rs_and31]
    refine lv_sipush (v := nI 929) hx hb dX1_put_23 (by decide) ?_
    refine rs_irem hx hb dX1_put_26 (by decide) (rs_m_lt p0) (by decide) ?_
    refine rs_top (b := (rs_v p0).val) rfl ?_
    refine rs_iast hx hb hK (rs_v p0) hWd hS (Or.inl (Or.inr (Or.inl rfl))) (by omega) (by omega) dX1_put_27 (fun H locs hWd ho hz hS => ?_)
    have hO := hO.st ho n2
    have hWk := hWk.st ho n5
    have hSn := hSn.st ho n8.symm
    have hGt := hGt.st ho n9.symm
    refine lv_aload_n hx hb dX1_put_28 rfl (lv_at hl 0 rfl) ?_
    refine lv_dup hx hb dX1_put_29 rfl ?_
    refine va_get (ci := 2) (v := .int (nI D)) (C := RX1) (T := TX1) (N := 7) hx hb hts in_X1 hown hK.1 (va_P1 hO) 0 rfl rfl 4 (by decide) (hts _ q41) (fun _ h9 => h9) rfl dX1_put_30 ?_
    refine lv_iconst (v := nI 1) hx hb dX1_put_33 (by decide) ?_
    refine rs_iadd hx hb dX1_put_34 ?_
    refine rs_put (C := RX1) (T := TX1) (N := 7) (ci := 2) (ty := .int) (v := .int (nI (D + 1))) hx hb hts in_X1 tyX1 tyX1_ok nmX1 hown hK hS (Or.inl (Or.inl rfl)) hO rfl 4 (by decide) (hts _ q41) (fun _ h9 => h9) rfl (by decide +kernel) (by first | rfl | decide) (by first | rfl | decide) (Nat.le_of_ble_eq_true rfl) dX1_put_35 (fun H locs hO ho hz hS => ?_)
    have hO : rs_O E H x 2 [.ref wk, .ref wd, .ref sn, .ref gt, .int (nI (D + 1)), .int (nI X), .int (nI mk)] := hO
    have hWk := hWk.st ho n1.symm
    have hWd := hWd.st ho n2.symm
    have hSn := hSn.st ho n3.symm
    have hGt := hGt.st ho n4.symm
    refine lv_aload_n hx hb dX1_put_38 rfl (lv_at hl 0 rfl) ?_
    refine lv_iconst (v := nI 0) hx hb dX1_put_39 (by decide) ?_
    refine rs_put (C := RX1) (T := TX1) (N := 7) (ci := 2) (ty := .boolean) (v := .int (nI 0)) hx hb hts in_X1 tyX1 tyX1_ok nmX1 hown hK hS (Or.inl (Or.inl rfl)) hO rfl 6 (by decide) (hts _ q43) (fun _ h9 => h9) rfl (by decide +kernel) (by first | rfl | decide) (by first | rfl | decide) (Nat.le_of_ble_eq_true rfl) dX1_put_40 (fun H locs hO ho hz hS => ?_)
    have hO : rs_O E H x 2 [.ref wk, .ref wd, .ref sn, .ref gt, .int (nI (D + 1)), .int (nI X), .int (nI 0)] := hO
    have hWk := hWk.st ho n1.symm
    have hWd := hWd.st ho n2.symm
    have hSn := hSn.st ho n3.symm
    have hGt := hGt.st ho n4.symm
    refine lv_iconst (v := nI 1) hx hb dX1_put_43 (by decide) ?_
    exact hret _ _ _ _ _ _ _ hS dX1_put_44 (by decide) (by omega) (by omega) ⟨rfl, hO, hWk, hWd, hSn, hGt⟩
  · exact absurd h1 (by omega)

set_option maxHeartbeats 4000000 in
set_option maxRecDepth 100000 in
theorem met_X1_clear (E : rsE) (l : Launch) (x wk wd sn gt D X mk : Nat) (cw cs cg : Nat → rsK) (p0 : Int32) : rs_Cv E l yX1_clear cX1_clear 2 ⟨0, 0, 0, 0⟩ (rs_w4 x wd sn gt) [.ref x, .int p0] (fun H => rs_Wd E H x wk wd sn gt D X mk cw cs cg ∧ rs_Di E x wk wd sn gt) (fun H => rs_Wd E H x wk wd sn gt 0 (2 + 2 * (p0.toBitVec.toNat % 8)) 0 cw cs cg) := by
  refine rs_goV (by decide) (Nat.le_of_ble_eq_true rfl) (fun p e R s m args below meth c Q hx hb hml hown hts hnm hK hF hpre hRf hRc hRs hRl hA hS hret ls hl => ?_)
  have hl : lv_has ls 2 [(0, .ref x), (1, .int p0)] := hl
  obtain ⟨⟨hO, hWk, hWd, hSn, hGt⟩, hDi⟩ := hpre
  obtain ⟨⟨n1, n2, n3, n4⟩, ⟨n5, n6, n7⟩, ⟨n8, n9⟩, n10, n11⟩ := id hDi
  refine lv_aload_n hx hb dX1_clear_0 rfl (lv_at hl 0 rfl) ?_
  refine lv_iconst (v := nI 0) hx hb dX1_clear_1 (by decide) ?_
  refine rs_put (C := RX1) (T := TX1) (N := 7) (ci := 2) (ty := .int) (v := .int (nI 0)) hx hb hts in_X1 tyX1 tyX1_ok nmX1 hown hK hS (Or.inl (Or.inl rfl)) hO rfl 4 (by decide) (hts _ q41) (fun _ h9 => h9) rfl (by decide +kernel) (by first | rfl | decide) (by first | rfl | decide) (Nat.le_of_ble_eq_true rfl) dX1_clear_2 (fun H locs hO ho hz hS => ?_)
  have hO : rs_O E H x 2 [.ref wk, .ref wd, .ref sn, .ref gt, .int (nI 0), .int (nI X), .int (nI mk)] := hO
  have hWk := hWk.st ho n1.symm
  have hWd := hWd.st ho n2.symm
  have hSn := hSn.st ho n3.symm
  have hGt := hGt.st ho n4.symm
  refine lv_aload_n hx hb dX1_clear_5 rfl (lv_at hl 0 rfl) ?_
  refine lv_iconst (v := nI 2) hx hb dX1_clear_6 (by decide) ?_
  refine lv_iconst (v := nI 2) hx hb dX1_clear_7 (by decide) ?_
  refine lv_iload_n hx hb dX1_clear_8 rfl (lv_at hl 1 rfl) ?_
  refine lv_bipush (v := nI 7) hx hb dX1_clear_9 (by decide) ?_
  refine lv_iand hx hb dX1_clear_11 ?_
  rw [pk_and p0 3 (by decide)]
  refine rs_imul hx hb dX1_clear_12 ?_
  refine rs_iadd hx hb dX1_clear_13 ?_
  refine rs_put (C := RX1) (T := TX1) (N := 7) (ci := 2) (ty := .int) (v := .int (nI (2 + (2 * (p0.toBitVec.toNat % 2 ^ 3))))) hx hb hts in_X1 tyX1 tyX1_ok nmX1 hown hK hS (Or.inl (Or.inl rfl)) hO rfl 5 (by decide) (hts _ q42) (fun _ h9 => h9) rfl (by decide +kernel) (by first | rfl | decide) (by first | rfl | decide) (Nat.le_of_ble_eq_true rfl) dX1_clear_14 (fun H locs hO ho hz hS => ?_)
  have hO : rs_O E H x 2 [.ref wk, .ref wd, .ref sn, .ref gt, .int (nI 0), .int (nI (2 + (2 * (p0.toBitVec.toNat % 2 ^ 3)))), .int (nI mk)] := hO
  have hWk := hWk.st ho n1.symm
  have hWd := hWd.st ho n2.symm
  have hSn := hSn.st ho n3.symm
  have hGt := hGt.st ho n4.symm
  refine lv_aload_n hx hb dX1_clear_17 rfl (lv_at hl 0 rfl) ?_
  refine lv_iconst (v := nI 0) hx hb dX1_clear_18 (by decide) ?_
  refine rs_put (C := RX1) (T := TX1) (N := 7) (ci := 2) (ty := .boolean) (v := .int (nI 0)) hx hb hts in_X1 tyX1 tyX1_ok nmX1 hown hK hS (Or.inl (Or.inl rfl)) hO rfl 6 (by decide) (hts _ q43) (fun _ h9 => h9) rfl (by decide +kernel) (by first | rfl | decide) (by first | rfl | decide) (Nat.le_of_ble_eq_true rfl) dX1_clear_19 (fun H locs hO ho hz hS => ?_)
  have hO : rs_O E H x 2 [.ref wk, .ref wd, .ref sn, .ref gt, .int (nI 0), .int (nI (2 + (2 * (p0.toBitVec.toNat % 2 ^ 3)))), .int (nI 0)] := hO
  have hWk := hWk.st ho n1.symm
  have hWd := hWd.st ho n2.symm
  have hSn := hSn.st ho n3.symm
  have hGt := hGt.st ho n4.symm
  exact hret _ _ _ _ _ _ hS dX1_clear_22 (by omega) (by omega) ⟨hO, hWk, hWd, hSn, hGt⟩

set_option maxHeartbeats 4000000 in
set_option maxRecDepth 100000 in
theorem met_X1_size (E : rsE) (l : Launch) (x wk wd sn gt D X : Nat) (cw cs cg : Nat → rsK) : rs_Ci E l yX1_size cX1_size 1 .int ⟨0, 0, 0, 0⟩ (rs_w4 x wd sn gt) [.ref x] (fun H => rs_Wd E H x wk wd sn gt D X 1 cw cs cg ∧ rs_Di E x wk wd sn gt) (fun r H => r = nI (D + X) ∧ rs_Wd E H x wk wd sn gt D X 1 cw cs cg) := by
  refine rs_goI (by decide) (Nat.le_of_ble_eq_true rfl) (fun p e R s m args below meth c Q hx hb hml hown hts hnm hK hF hpre hRf hRc hRs hRl hA hS hret ls hl => ?_)
  have hl : lv_has ls 1 [(0, .ref x)] := hl
  obtain ⟨⟨hO, hWk, hWd, hSn, hGt⟩, hDi⟩ := hpre
  obtain ⟨⟨n1, n2, n3, n4⟩, ⟨n5, n6, n7⟩, ⟨n8, n9⟩, n10, n11⟩ := id hDi
  refine lv_aload_n hx hb dX1_size_0 rfl (lv_at hl 0 rfl) ?_
  refine va_get (ci := 2) (v := .int (nI 1)) (C := RX1) (T := TX1) (N := 7) hx hb hts in_X1 hown hK.1 (va_P1 hO) 0 rfl rfl 6 (by decide) (hts _ q43) (fun _ h9 => h9) rfl dX1_size_1 ?_
  refine rs_ifeq (tgt := 19) hx hb dX1_size_4 (by decide) (by decide) (fun h1 => ?_) (fun h1 => ?_)
  · exact absurd h1 (by decide)
  · refine lv_aload_n hx hb dX1_size_7 rfl (lv_at hl 0 rfl) ?_
    refine va_get (ci := 2) (v := .int (nI D)) (C := RX1) (T := TX1) (N := 7) hx hb hts in_X1 hown hK.1 (va_P1 hO) 0 rfl rfl 4 (by decide) (hts _ q41) (fun _ h9 => h9) rfl dX1_size_8 ?_
    refine lv_aload_n hx hb dX1_size_11 rfl (lv_at hl 0 rfl) ?_
    refine va_get (ci := 2) (v := .int (nI X)) (C := RX1) (T := TX1) (N := 7) hx hb hts in_X1 hown hK.1 (va_P1 hO) 0 rfl rfl 5 (by decide) (hts _ q42) (fun _ h9 => h9) rfl dX1_size_12 ?_
    refine rs_iadd hx hb dX1_size_15 ?_
    refine lv_goto (tgt := 23) hx hb dX1_size_16 (by decide) ?_
    exact hret _ _ _ _ _ _ _ hS dX1_size_23 rfl (by omega) (by omega) ⟨rfl, hO, hWk, hWd, hSn, hGt⟩

set_option maxHeartbeats 4000000 in
set_option maxRecDepth 100000 in
theorem met_X1_harm (E : rsE) (l : Launch) (x wk wd sn gt D X : Nat) (cw cs cg : Nat → rsK) (p0 p1 : Int32) (hN1 : 1 ≤ D + X) (hN2 : D + X ≤ 64) : rs_Ci E l yX1_harm cX1_harm 3 .boolean ⟨0, 0, 0, 0⟩ (rs_w4 x wd sn gt) [.ref x, .int p0, .int p1] (fun H => rs_Wd E H x wk wd sn gt D X 1 cw cs cg ∧ rs_Di E x wk wd sn gt) (fun r H => r = nI 1 ∧ rs_Wd E H x wk wd sn gt D X 1 cw cs (va_up cg (rs_m p0 % (D + X)) (rs_v p1))) := by
  refine rs_goI (by decide) (Nat.le_of_ble_eq_true rfl) (fun p e R s m args below meth c Q hx hb hml hown hts hnm hK hF hpre hRf hRc hRs hRl hA hS hret ls hl => ?_)
  have hl : lv_has ls 3 [(0, .ref x), (1, .int p0), (2, .int p1)] := hl
  obtain ⟨⟨hO, hWk, hWd, hSn, hGt⟩, hDi⟩ := hpre
  obtain ⟨⟨n1, n2, n3, n4⟩, ⟨n5, n6, n7⟩, ⟨n8, n9⟩, n10, n11⟩ := id hDi
  refine lv_aload_n hx hb dX1_harm_0 rfl (lv_at hl 0 rfl) ?_
  refine va_get (ci := 2) (v := .int (nI 1)) (C := RX1) (T := TX1) (N := 7) hx hb hts in_X1 hown hK.1 (va_P1 hO) 0 rfl rfl 6 (by decide) (hts _ q43) (fun _ h9 => h9) rfl dX1_harm_1 ?_
  refine rs_ifne (tgt := 9) hx hb dX1_harm_4 (by decide) (by decide) (fun h1 => ?_) (fun h1 => ?_)
  · have hmod : rs_m p0 % (D + X) < D + X := Nat.mod_lt _ (by omega)
    refine lv_aload_n hx hb dX1_harm_9 rfl (lv_at hl 0 rfl) ?_
    refine va_get (ci := 2) (v := .ref gt) (C := RX1) (T := TX1) (N := 7) hx hb hts in_X1 hown hK.1 (va_P1 hO) 0 rfl rfl 3 (by decide) (hts _ q40) (fun _ h9 => h9) rfl dX1_harm_10 ?_
    refine lv_iload_n hx hb dX1_harm_13 rfl (lv_at hl 1 rfl) ?_
    refine lv_ldc hx hb hown (hts _ q64) dX1_harm_14 ?_
    refine lv_iand hx hb dX1_harm_16 ?_
    rw [rs_and31]
    refine lv_aload_n hx hb dX1_harm_17 rfl (lv_at hl 0 rfl) ?_
    refine va_get (ci := 2) (v := .int (nI D)) (C := RX1) (T := TX1) (N := 7) hx hb hts in_X1 hown hK.1 (va_P1 hO) 0 rfl rfl 4 (by decide) (hts _ q41) (fun _ h9 => h9) rfl dX1_harm_18 ?_
    refine lv_aload_n hx hb dX1_harm_21 rfl (lv_at hl 0 rfl) ?_
    refine va_get (ci := 2) (v := .int (nI X)) (C := RX1) (T := TX1) (N := 7) hx hb hts in_X1 hown hK.1 (va_P1 hO) 0 rfl rfl 5 (by decide) (hts _ q42) (fun _ h9 => h9) rfl dX1_harm_22 ?_
    refine rs_iadd hx hb dX1_harm_25 ?_
    refine rs_irem hx hb dX1_harm_26 (by omega) (rs_m_lt p0) (by omega) ?_
    refine lv_iload_n hx hb dX1_harm_27 rfl (lv_at hl 2 rfl) ?_
    refine lv_ldc hx hb hown (hts _ q64) dX1_harm_28 ?_
    refine lv_iand hx hb dX1_harm_30 ?_
    rw [rs_and31]
    refine lv_sipush (v := nI 929) hx hb dX1_harm_31 (by decide) ?_
    refine rs_irem hx hb dX1_harm_34 (by decide) (rs_m_lt p1) (by decide) ?_
    refine rs_top (b := (rs_v p1).val) rfl ?_
    refine rs_iast hx hb hK (rs_v p1) hGt hS (Or.inl (Or.inr (Or.inr (Or.inr rfl)))) (by omega) (by omega) dX1_harm_35 (fun H locs hGt ho hz hS => ?_)
    have hO := hO.st ho n4
    have hWk := hWk.st ho n7
    have hWd := hWd.st ho n9
    have hSn := hSn.st ho n10
    refine lv_iconst (v := nI 1) hx hb dX1_harm_36 (by decide) ?_
    exact hret _ _ _ _ _ _ _ hS dX1_harm_37 (by decide) (by omega) (by omega) ⟨rfl, hO, hWk, hWd, hSn, hGt⟩
  · exact absurd h1 (by decide)

set_option maxHeartbeats 4000000 in
set_option maxRecDepth 100000 in
theorem met_X1_got (E : rsE) (l : Launch) (x wk wd sn gt D X i : Nat) (cw cs cg : Nat → rsK) (hi : i < D + X) (hN2 : D + X ≤ 64) : rs_Ci E l yX1_got cX1_got 2 .int ⟨0, 0, 0, 0⟩ (rs_w4 x wd sn gt) [.ref x, .int (nI i)] (fun H => rs_Wd E H x wk wd sn gt D X 1 cw cs cg ∧ rs_Di E x wk wd sn gt) (fun r H => r = kI (cg i) ∧ rs_Wd E H x wk wd sn gt D X 1 cw cs cg) := by
  refine rs_goI (by decide) (Nat.le_of_ble_eq_true rfl) (fun p e R s m args below meth c Q hx hb hml hown hts hnm hK hF hpre hRf hRc hRs hRl hA hS hret ls hl => ?_)
  have hl : lv_has ls 2 [(0, .ref x), (1, .int (nI i))] := hl
  obtain ⟨⟨hO, hWk, hWd, hSn, hGt⟩, hDi⟩ := hpre
  obtain ⟨⟨n1, n2, n3, n4⟩, ⟨n5, n6, n7⟩, ⟨n8, n9⟩, n10, n11⟩ := id hDi
  refine lv_aload_n hx hb dX1_got_0 rfl (lv_at hl 0 rfl) ?_
  refine va_get (ci := 2) (v := .int (nI 1)) (C := RX1) (T := TX1) (N := 7) hx hb hts in_X1 hown hK.1 (va_P1 hO) 0 rfl rfl 6 (by decide) (hts _ q43) (fun _ h9 => h9) rfl dX1_got_1 ?_
  refine rs_ifeq (tgt := 29) hx hb dX1_got_4 (by decide) (by decide) (fun h1 => ?_) (fun h1 => ?_)
  · exact absurd h1 (by decide)
  · refine lv_aload_n hx hb dX1_got_7 rfl (lv_at hl 0 rfl) ?_
    refine va_get (ci := 2) (v := .ref gt) (C := RX1) (T := TX1) (N := 7) hx hb hts in_X1 hown hK.1 (va_P1 hO) 0 rfl rfl 3 (by decide) (hts _ q40) (fun _ h9 => h9) rfl dX1_got_8 ?_
    refine lv_iload_n hx hb dX1_got_11 rfl (lv_at hl 1 rfl) ?_
    refine lv_ldc hx hb hown (hts _ q64) dX1_got_12 ?_
    refine lv_iand hx hb dX1_got_14 ?_
    rw [rs_and31, rs_and31N (by omega)]
    refine lv_aload_n hx hb dX1_got_15 rfl (lv_at hl 0 rfl) ?_
    refine va_get (ci := 2) (v := .int (nI D)) (C := RX1) (T := TX1) (N := 7) hx hb hts in_X1 hown hK.1 (va_P1 hO) 0 rfl rfl 4 (by decide) (hts _ q41) (fun _ h9 => h9) rfl dX1_got_16 ?_
    refine lv_aload_n hx hb dX1_got_19 rfl (lv_at hl 0 rfl) ?_
    refine va_get (ci := 2) (v := .int (nI X)) (C := RX1) (T := TX1) (N := 7) hx hb hts in_X1 hown hK.1 (va_P1 hO) 0 rfl rfl 5 (by decide) (hts _ q42) (fun _ h9 => h9) rfl dX1_got_20 ?_
    refine rs_iadd hx hb dX1_got_23 ?_
    refine rs_irem hx hb dX1_got_24 (by omega) (by omega) (by omega) ?_
    refine rs_top (b := i) (Nat.mod_eq_of_lt hi) ?_
    refine rs_iald hx hb hK hGt (by omega) (by omega) dX1_got_25 ?_
    refine lv_goto (tgt := 30) hx hb dX1_got_26 (by decide) ?_
    exact hret _ _ _ _ _ _ _ hS dX1_got_30 rfl (by omega) (by omega) ⟨rfl, hO, hWk, hWd, hSn, hGt⟩
end
section
/-! PdfRepair.encode -/
theorem rs_lin (a r b : rsK) : (a.val + (929 - r.val) * b.val) % 929 = (a - r * b).val := by
  have h1 : a - r * b = a + (0 - r) * b := by grind
  rw [h1]
  show _ = (a.val + ((929 - r.val + 0) % 929 * b.val) % 929) % 929
  rw [Nat.add_zero, Nat.add_mod a.val, Nat.mod_mul_mod]
  rw [Nat.add_mod a.val, Nat.mod_mod]
theorem rs_lin_lt (a r b : rsK) : a.val + (929 - r.val) * b.val < 2 ^ 31 := by
  have h1 : (929 - r.val) * b.val ≤ 929 * 929 := Nat.mul_le_mul (by omega) (by have := b.isLt; omega)
  have := a.isLt
  omega
theorem rs_x3 (r : Nat) : (rs_x r).val * 3 % 929 = (rs_x (r + 1)).val := by
  rw [rs_x_val, rs_x_val, Nat.pow_succ, Nat.mod_mul_mod]
theorem rs_neg_val (b : rsK) : (929 - b.val) % 929 = (0 - b).val := rfl
/-- one factor more -/
theorem rs_gen_step {u u0 : Nat → rsK} {r : Nat} {rt : rsK} (h0 : u0 (r + 1) = 0) (hu : ∀ j, u j = if 0 < j ∧ j ≤ r + 1 then u0 j - rt * u0 (j - 1) else u0 j) (x : rsK) : rs_ev u (r + 1 + 1) x = (x - rt) * rs_ev u0 (r + 1) x := by
  have h1 := rs_ev_ad u0 (fun j => (-rt) * (fun j => if j < 1 then 0 else u0 (j - 1)) j) (r + 1 + 1) x
  rw [rs_ev_sm, show r + 1 + 1 = 1 + (r + 1) by omega, rs_ev_pad u0 1 (r + 1) x, show 1 + (r + 1) = r + 1 + 1 by omega, rs_ev_s u0 (r + 1), h0] at h1
  rw [rs_ev_cg (r + 1 + 1) (d := fun j => u0 j + (fun j => (-rt) * (fun j => if j < 1 then 0 else u0 (j - 1)) j) j) (fun j hj => by
    rw [hu j]
    by_cases hj0 : j = 0
    · subst hj0
      rw [if_neg (by omega)]
      show u0 0 = u0 0 + (-rt) * (if 0 < 1 then 0 else u0 (0 - 1))
      rw [if_pos (by omega)]; grind
    · rw [if_pos (by omega)]
      show u0 j - rt * u0 (j - 1) = u0 j + (-rt) * (if j < 1 then 0 else u0 (j - 1))
      rw [if_neg (by omega)]; grind) x, h1]
  grind
def rs_nx (v : Nat → rsK) (r j : Nat) : rsK := if j + 1 < r then v (j + 1) else 0
/-- one symbol more in the shift register -/
theorem rs_lfsr {v v0 u : Nat → rsK} {X : Nat} (hX1 : 1 ≤ X) {f w P x : rsK} (hu0 : u 0 = 1) (hux : rs_ev u (X + 1) x = 0) (hf : f = w + v0 0) (hv : ∀ j, j < X → v j = rs_nx v0 X j - f * u (j + 1)) (hP : rs_ev v0 X x = P * rs_pw x X) : rs_ev v X x = (P * x + w) * rs_pw x X := by
  obtain ⟨Y, rfl⟩ : ∃ Y, X = Y + 1 := ⟨X - 1, by omega⟩
  have h1 := rs_ev_ad (fun j => if j + 1 < Y + 1 then v0 (j + 1) else 0) (fun j => (-f) * (fun j => u (j + 1)) j) (Y + 1) x
  rw [rs_ev_sm] at h1
  rw [rs_ev_cg (Y + 1) (d := fun j => (fun j => if j + 1 < Y + 1 then v0 (j + 1) else 0) j + (fun j => (-f) * (fun j => u (j + 1)) j) j) (fun j hj => by
    rw [hv j hj]
    show rs_nx v0 (Y + 1) j - f * u (j + 1) = rs_nx v0 (Y + 1) j + (-f) * u (j + 1)
    grind) x, h1]
  have h2 : rs_ev (fun j => if j + 1 < Y + 1 then v0 (j + 1) else 0) (Y + 1) x = rs_ev (fun j => v0 (j + 1)) Y x * x := by
    rw [rs_ev_s, rs_ev_cg Y (d := fun j => v0 (j + 1)) (fun j hj => by rw [if_pos (by omega)]) x, if_neg (by omega)]; grind
  have h3 := rs_ev_front v0 Y x
  have h4 := rs_ev_front u (Y + 1) x
  rw [hux, hu0] at h4
  rw [hP] at h3
  have h5 : rs_ev (fun j => u (j + 1)) (Y + 1) x = -(rs_pw x (Y + 1)) := by
    have h6 : rs_ev (fun j => u (j + 1)) (Y + 1) x = (1 * rs_pw x (Y + 1) + rs_ev (fun j => u (j + 1)) (Y + 1) x) - rs_pw x (Y + 1) := by grind
    rw [h6, ← h4]; grind
  have h7 : rs_ev (fun j => v0 (j + 1)) Y x = P * rs_pw x (Y + 1) - v0 0 * rs_pw x Y := by rw [h3]; grind
  rw [h2, h5, h7, hf, rs_pw_s]
  grind
set_option maxHeartbeats 4000000 in
set_option maxRecDepth 100000 in
theorem met_X1_encode (E : rsE) (l : Launch) (x wk wd sn gt D X mk : Nat) (cw cs cg : Nat → rsK) (hD1 : 1 ≤ D) (hD2 : D ≤ 20) (hX1 : 1 ≤ X) (hX2 : X ≤ 20) : rs_Ci E l yX1_encode cX1_encode 8 .boolean ⟨0, 2, 50, 0⟩ (rs_w4 x wd sn gt) [.ref x] (fun H => rs_Wd E H x wk wd sn gt D X mk cw cs cg ∧ rs_Di E x wk wd sn gt) (fun r H => r = nI 1 ∧ ∃ sc gc : Nat → rsK, rs_Wd E H x wk wd sn gt D X 1 cw sc gc ∧ (∀ j, j < D + X → gc j = sc j) ∧ ∀ t, 1 ≤ t → t ≤ X → rs_ev sc (D + X) (rs_x t) = 0) := by
  refine rs_goI (by decide) (Nat.le_of_ble_eq_true rfl) (fun p e R s m args below meth c Q hx hb hml hown hts hnm hK hF hpre hRf hRc hRs hRl hA hS hret ls hl => ?_)
  have hl : lv_has ls 8 [(0, .ref x)] := hl
  obtain ⟨⟨hO, hWk, hWd, hSn, hGt⟩, hDi⟩ := hpre
  obtain ⟨⟨n1, n2, n3, n4⟩, ⟨n5, n6, n7⟩, ⟨n8, n9⟩, n10, n11⟩ := id hDi
  refine lv_aload_n hx hb dX1_encode_0 rfl (lv_at hl 0 rfl) ?_
  refine va_get (ci := 2) (v := .int (nI D)) (C := RX1) (T := TX1) (N := 7) hx hb hts in_X1 hown hK.1 (va_P1 hO) 0 rfl rfl 4 (by decide) (hts _ q41) (fun _ h9 => h9) rfl dX1_encode_1 ?_
  refine rs_ifne (tgt := 9) hx hb dX1_encode_4 (by decide) (by omega) (fun h1 => ?_) (fun h1 => ?_)
  · refine lv_aload_n hx hb dX1_encode_9 rfl (lv_at hl 0 rfl) ?_
    refine va_get (ci := 2) (v := .int (nI X)) (C := RX1) (T := TX1) (N := 7) hx hb hts in_X1 hown hK.1 (va_P1 hO) 0 rfl rfl 5 (by decide) (hts _ q42) (fun _ h9 => h9) rfl dX1_encode_10 ?_
    refine lv_iconst (v := nI 1) hx hb dX1_encode_13 (by decide) ?_
    refine rs_iadd hx hb dX1_encode_14 ?_
    refine rs_newa (n := (X + 1)) hx hb hK hts hS (by omega) (by omega) (by omega) dX1_encode_15 (fun gg H hq_gg hs_gg hg hX hz_gg hS => ?_)
    have ne_x_gg : x ≠ gg := by rw [hq_gg]; exact Nat.ne_of_lt (rs_O.lt hO)
    have ne_wk_gg : wk ≠ gg := by rw [hq_gg]; exact Nat.ne_of_lt (rs_O.lt hWk)
    have ne_wd_gg : wd ≠ gg := by rw [hq_gg]; exact Nat.ne_of_lt (rs_A.lt hWd)
    have ne_sn_gg : sn ≠ gg := by rw [hq_gg]; exact Nat.ne_of_lt (rs_A.lt hSn)
    have ne_gt_gg : gt ≠ gg := by rw [hq_gg]; exact Nat.ne_of_lt (rs_A.lt hGt)
    have hO := hO.k0 hX
    have hWk := hWk.k0 hX
    have hWd := hWd.k0 hX
    have hSn := hSn.k0 hX
    have hGt := hGt.k0 hX
    refine lv_astore_n (lv' := [(1, .ref gg), (0, .ref x)]) hx hb dX1_encode_17 rfl hl (by decide) rfl (fun ls hl => ?_)
    refine lv_aload_n hx hb dX1_encode_18 rfl (lv_at hl 0 rfl) ?_
    refine lv_iconst (v := nI 0) hx hb dX1_encode_19 (by decide) ?_
    refine lv_iconst (v := nI 1) hx hb dX1_encode_20 (by decide) ?_
    refine rs_iast hx hb hK 1 hg hS (hA _ hs_gg) (by omega) (by omega) dX1_encode_21 (fun H locs hg ho hz hS => ?_)
    have hO := hO.st ho ne_x_gg
    have hWk := hWk.st ho ne_wk_gg
    have hWd := hWd.st ho ne_wd_gg
    have hSn := hSn.st ho ne_sn_gg
    have hGt := hGt.st ho ne_gt_gg
    refine lv_iconst (v := nI 1) hx hb dX1_encode_22 (by decide) ?_
    refine lv_istore_n (lv' := [(2, .int (nI 1)), (1, .ref gg), (0, .ref x)]) hx hb dX1_encode_23 rfl hl (by decide) rfl (fun ls hl => ?_)
    refine lv_iconst (v := nI 1) hx hb dX1_encode_24 (by decide) ?_
    refine lv_istore_n (lv' := [(3, .int (nI 1)), (2, .int (nI 1)), (1, .ref gg), (0, .ref x)]) hx hb dX1_encode_25 rfl hl (by decide) rfl (fun ls hl => ?_)
    have loopA : ∀ (k : Nat) (r : Nat) (u : Nat → rsK) (H : Heap) (locs : List Loc) (ls : Array Slot), r + k = X → u 0 = 1 → (∀ j, r < j → u j = 0) → (∀ t, 1 ≤ t → t ≤ r → rs_ev u (r + 1) (rs_x t) = 0) → rs_O E H x 2 [.ref wk, .ref wd, .ref sn, .ref gt, .int (nI D), .int (nI X), .int (nI mk)] → rs_O E H wk 1 [.ref (E.2.2 0)] → rs_A E H wd 64 cw → rs_A E H sn 64 cs → rs_A E H gt 64 cg → rs_A E H gg (X + 1) u → va_S (rs_W0 (rs_w4 x wd sn gt) s.heap.size) s.heap H locs → lv_has ls 8 [(0, .ref x), (1, .ref gg), (2, .int (kI (rs_x r))), (3, .int (nI (r + 1)))] → W p l e R s m args below meth c H locs (0 + 1) (0 + (X + 1)) Q (F0 m 26 ls []) := by
      intro k
      induction k with
      | zero =>
        intro r u H locs ls hk hu0 huz hur hO hWk hWd hSn hGt hg hS hl
        refine lv_iload_n hx hb dX1_encode_26 rfl (lv_at hl 3 rfl) ?_
        refine lv_aload_n hx hb dX1_encode_27 rfl (lv_at hl 0 rfl) ?_
        refine va_get (ci := 2) (v := .int (nI X)) (C := RX1) (T := TX1) (N := 7) hx hb hts in_X1 hown hK.1 (va_P1 hO) 0 rfl rfl 5 (by decide) (hts _ q42) (fun _ h9 => h9) rfl dX1_encode_28 ?_
        refine rs_cgt (tgt := 87) hx hb dX1_encode_31 (by decide) (by omega) (by omega) (fun h3 => ?_) (fun h3 => ?_)
        · have hr0 : r = X := by omega
          subst hr0
          have hl : lv_has ls 8 [(0, .ref x), (1, .ref gg)] := lv_sub hl [0, 1] rfl
          refine lv_aload_n hx hb dX1_encode_87 rfl (lv_at hl 0 rfl) ?_
          refine va_get (ci := 2) (v := .int (nI r)) (C := RX1) (T := TX1) (N := 7) hx hb hts in_X1 hown hK.1 (va_P1 hO) 0 rfl rfl 5 (by decide) (hts _ q42) (fun _ h9 => h9) rfl dX1_encode_88 ?_
          refine rs_newa (n := r) hx hb hK hts hS (by omega) (by omega) (by omega) dX1_encode_91 (fun rr H hq_rr hs_rr hr hX hz_rr hS => ?_)
          have ne_x_rr : x ≠ rr := by rw [hq_rr]; exact Nat.ne_of_lt (rs_O.lt hO)
          have ne_wk_rr : wk ≠ rr := by rw [hq_rr]; exact Nat.ne_of_lt (rs_O.lt hWk)
          have ne_wd_rr : wd ≠ rr := by rw [hq_rr]; exact Nat.ne_of_lt (rs_A.lt hWd)
          have ne_sn_rr : sn ≠ rr := by rw [hq_rr]; exact Nat.ne_of_lt (rs_A.lt hSn)
          have ne_gt_rr : gt ≠ rr := by rw [hq_rr]; exact Nat.ne_of_lt (rs_A.lt hGt)
          have ne_gg_rr : gg ≠ rr := by rw [hq_rr]; exact Nat.ne_of_lt (rs_A.lt hg)
          have hO := hO.k0 hX
          have hWk := hWk.k0 hX
          have hWd := hWd.k0 hX
          have hSn := hSn.k0 hX
          have hGt := hGt.k0 hX
          have hg := hg.k0 hX
          refine lv_astore_n (lv' := [(3, .ref rr), (0, .ref x), (1, .ref gg)]) hx hb dX1_encode_93 rfl hl (by decide) rfl (fun ls hl => ?_)
          refine lv_iconst (v := nI 0) hx hb dX1_encode_94 (by decide) ?_
          refine lv_istore (lv' := [(4, .int (nI 0)), (3, .ref rr), (0, .ref x), (1, .ref gg)]) hx hb dX1_encode_95 hl (by decide) rfl (fun ls hl => ?_)
          have loopB : ∀ (k : Nat) (i : Nat) (v sc : Nat → rsK) (H : Heap) (locs : List Loc) (ls : Array Slot), i + k = D → (∀ j, j < i → sc j = cw j) → (∀ t, 1 ≤ t → t ≤ r → rs_ev v r (rs_x t) = rs_ev cw i (rs_x t) * rs_pw (rs_x t) r) → rs_O E H x 2 [.ref wk, .ref wd, .ref sn, .ref gt, .int (nI D), .int (nI r), .int (nI mk)] → rs_O E H wk 1 [.ref (E.2.2 0)] → rs_A E H wd 64 cw → rs_A E H sn 64 sc → rs_A E H gt 64 cg → rs_A E H gg (r + 1) u → rs_A E H rr r v → va_S (rs_W0 (rs_w4 x wd sn gt) s.heap.size) s.heap H locs → lv_has ls 8 [(0, .ref x), (1, .ref gg), (3, .ref rr), (4, .int (nI i))] → W p l e R s m args below meth c H locs (0 + 1 + 1) (0 + (r + 1) + r) Q (F0 m 97 ls []) := by
            intro k
            induction k with
            | zero =>
              intro i v sc H locs ls hk hsc hev hO hWk hWd hSn hGt hg hr hS hl
              refine lv_iload hx hb dX1_encode_97 (lv_at hl 3 rfl) ?_
              refine lv_aload_n hx hb dX1_encode_99 rfl (lv_at hl 0 rfl) ?_
              refine va_get (ci := 2) (v := .int (nI D)) (C := RX1) (T := TX1) (N := 7) hx hb hts in_X1 hown hK.1 (va_P1 hO) 0 rfl rfl 4 (by decide) (hts _ q41) (fun _ h9 => h9) rfl dX1_encode_100 ?_
              refine rs_cge (tgt := 208) hx hb dX1_encode_103 (by decide) (by omega) (by omega) (fun h4 => ?_) (fun h4 => ?_)
              · have hi0 : i = D := by omega
                subst hi0
                have hl : lv_has ls 8 [(0, .ref x), (3, .ref rr)] := lv_sub hl [0, 2] rfl
                refine lv_iconst (v := nI 0) hx hb dX1_encode_208 (by decide) ?_
                refine lv_istore (lv' := [(4, .int (nI 0)), (0, .ref x), (3, .ref rr)]) hx hb dX1_encode_209 hl (by decide) rfl (fun ls hl => ?_)
                have loopD : ∀ (k2 : Nat) (j9 : Nat) (s2 : Nat → rsK) (H : Heap) (locs : List Loc) (ls : Array Slot), j9 + k2 = r → (∀ j, j < i → s2 j = cw j) → (∀ j, j < j9 → s2 (i + j) = 0 - v j) → rs_O E H x 2 [.ref wk, .ref wd, .ref sn, .ref gt, .int (nI i), .int (nI r), .int (nI mk)] → rs_O E H wk 1 [.ref (E.2.2 0)] → rs_A E H wd 64 cw → rs_A E H sn 64 s2 → rs_A E H gt 64 cg → rs_A E H rr r v → va_S (rs_W0 (rs_w4 x wd sn gt) s.heap.size) s.heap H locs → lv_has ls 8 [(0, .ref x), (3, .ref rr), (4, .int (nI j9))] → W p l e R s m args below meth c H locs (0 + 1 + 1) (0 + (r + 1) + r) Q (F0 m 211 ls []) := by
                  intro k2
                  induction k2 with
                  | zero =>
                    intro j9 s2 H locs ls hk2 hs1 hs2 hO hWk hWd hSn hGt hr hS hl
                    refine lv_iload hx hb dX1_encode_211 (lv_at hl 2 rfl) ?_
                    refine lv_aload_n hx hb dX1_encode_213 rfl (lv_at hl 0 rfl) ?_
                    refine va_get (ci := 2) (v := .int (nI r)) (C := RX1) (T := TX1) (N := 7) hx hb hts in_X1 hown hK.1 (va_P1 hO) 0 rfl rfl 5 (by decide) (hts _ q42) (fun _ h9 => h9) rfl dX1_encode_214 ?_
                    refine rs_cge (tgt := 250) hx hb dX1_encode_217 (by decide) (by omega) (by omega) (fun h5 => ?_) (fun h5 => ?_)
                    · have hl : lv_has ls 8 [(0, .ref x)] := lv_sub hl [0] rfl
                      refine lv_iconst (v := nI 0) hx hb dX1_encode_250 (by decide) ?_
                      refine lv_istore (lv' := [(4, .int (nI 0)), (0, .ref x)]) hx hb dX1_encode_251 hl (by decide) rfl (fun ls hl => ?_)
                      have loopE : ∀ (k3 : Nat) (e9 : Nat) (g2 : Nat → rsK) (H : Heap) (locs : List Loc) (ls : Array Slot), e9 + k3 = i + r → (∀ j, j < e9 → g2 j = s2 j) → rs_O E H x 2 [.ref wk, .ref wd, .ref sn, .ref gt, .int (nI i), .int (nI r), .int (nI mk)] → rs_O E H wk 1 [.ref (E.2.2 0)] → rs_A E H wd 64 cw → rs_A E H sn 64 s2 → rs_A E H gt 64 g2 → va_S (rs_W0 (rs_w4 x wd sn gt) s.heap.size) s.heap H locs → lv_has ls 8 [(0, .ref x), (4, .int (nI e9))] → W p l e R s m args below meth c H locs (0 + 1 + 1) (0 + (r + 1) + r) Q (F0 m 253 ls []) := by
                        intro k3
                        induction k3 with
                        | zero =>
                          intro e9 g2 H locs ls hk3 hg2 hO hWk hWd hSn hGt hS hl
                          refine lv_iload hx hb dX1_encode_253 (lv_at hl 1 rfl) ?_
                          refine lv_aload_n hx hb dX1_encode_255 rfl (lv_at hl 0 rfl) ?_
                          refine va_get (ci := 2) (v := .int (nI i)) (C := RX1) (T := TX1) (N := 7) hx hb hts in_X1 hown hK.1 (va_P1 hO) 0 rfl rfl 4 (by decide) (hts _ q41) (fun _ h9 => h9) rfl dX1_encode_256 ?_
                          refine lv_aload_n hx hb dX1_encode_259 rfl (lv_at hl 0 rfl) ?_
                          refine va_get (ci := 2) (v := .int (nI r)) (C := RX1) (T := TX1) (N := 7) hx hb hts in_X1 hown hK.1 (va_P1 hO) 0 rfl rfl 5 (by decide) (hts _ q42) (fun _ h9 => h9) rfl dX1_encode_260 ?_
                          refine rs_iadd hx hb dX1_encode_263 ?_
                          refine rs_cge (tgt := 287) hx hb dX1_encode_264 (by decide) (by omega) (by omega) (fun h6 => ?_) (fun h6 => ?_)
                          · refine lv_aload_n hx hb dX1_encode_287 rfl (lv_at hl 0 rfl) ?_
                            refine lv_iconst (v := nI 1) hx hb dX1_encode_288 (by decide) ?_
                            refine rs_put (C := RX1) (T := TX1) (N := 7) (ci := 2) (ty := .boolean) (v := .int (nI 1)) hx hb hts in_X1 tyX1 tyX1_ok nmX1 hown hK hS (Or.inl (Or.inl rfl)) hO rfl 6 (by decide) (hts _ q43) (fun _ h9 => h9) rfl (by decide +kernel) (by first | rfl | decide) (by first | rfl | decide) (Nat.le_of_ble_eq_true rfl) dX1_encode_289 (fun H locs hO ho hz hS => ?_)
                            have hO : rs_O E H x 2 [.ref wk, .ref wd, .ref sn, .ref gt, .int (nI i), .int (nI r), .int (nI 1)] := hO
                            have hWk := hWk.st ho n1.symm
                            have hWd := hWd.st ho n2.symm
                            have hSn := hSn.st ho n3.symm
                            have hGt := hGt.st ho n4.symm
                            refine lv_iconst (v := nI 1) hx hb dX1_encode_292 (by decide) ?_
                            exact hret _ _ _ _ _ _ _ hS dX1_encode_293 (by decide) (by omega) (by omega) ⟨rfl, s2, g2, ⟨hO, hWk, hWd, hSn, hGt⟩, fun j hj => hg2 j (by omega), fun t ht1 ht2 => by
                              rw [rs_ev_ap, rs_ev_cg i (d := cw) hs1 (rs_x t), rs_ev_cg r (d := fun j => (-1) * v j) (fun j hj => by rw [hs2 j (by omega)]; grind) (rs_x t), rs_ev_sm, hev t ht1 ht2]; grind⟩
                          · exact absurd h6 (by omega)
                        | succ k3 ih =>
                          intro e9 g2 H locs ls hk3 hg2 hO hWk hWd hSn hGt hS hl
                          refine lv_iload hx hb dX1_encode_253 (lv_at hl 1 rfl) ?_
                          refine lv_aload_n hx hb dX1_encode_255 rfl (lv_at hl 0 rfl) ?_
                          refine va_get (ci := 2) (v := .int (nI i)) (C := RX1) (T := TX1) (N := 7) hx hb hts in_X1 hown hK.1 (va_P1 hO) 0 rfl rfl 4 (by decide) (hts _ q41) (fun _ h9 => h9) rfl dX1_encode_256 ?_
                          refine lv_aload_n hx hb dX1_encode_259 rfl (lv_at hl 0 rfl) ?_
                          refine va_get (ci := 2) (v := .int (nI r)) (C := RX1) (T := TX1) (N := 7) hx hb hts in_X1 hown hK.1 (va_P1 hO) 0 rfl rfl 5 (by decide) (hts _ q42) (fun _ h9 => h9) rfl dX1_encode_260 ?_
                          refine rs_iadd hx hb dX1_encode_263 ?_
                          refine rs_cge (tgt := 287) hx hb dX1_encode_264 (by decide) (by omega) (by omega) (fun h6 => ?_) (fun h6 => ?_)
                          · exact absurd h6 (by omega)
                          · refine lv_aload_n hx hb dX1_encode_267 rfl (lv_at hl 0 rfl) ?_
                            refine va_get (ci := 2) (v := .ref gt) (C := RX1) (T := TX1) (N := 7) hx hb hts in_X1 hown hK.1 (va_P1 hO) 0 rfl rfl 3 (by decide) (hts _ q40) (fun _ h9 => h9) rfl dX1_encode_268 ?_
                            refine lv_iload hx hb dX1_encode_271 (lv_at hl 1 rfl) ?_
                            refine lv_aload_n hx hb dX1_encode_273 rfl (lv_at hl 0 rfl) ?_
                            refine va_get (ci := 2) (v := .ref sn) (C := RX1) (T := TX1) (N := 7) hx hb hts in_X1 hown hK.1 (va_P1 hO) 0 rfl rfl 2 (by decide) (hts _ q39) (fun _ h9 => h9) rfl dX1_encode_274 ?_
                            refine lv_iload hx hb dX1_encode_277 (lv_at hl 1 rfl) ?_
                            refine rs_iald hx hb hK hSn (by omega) (by omega) dX1_encode_279 ?_
                            refine rs_iast hx hb hK (s2 e9) hGt hS (Or.inl (Or.inr (Or.inr (Or.inr rfl)))) (by omega) (by omega) dX1_encode_280 (fun H locs hGt ho hz hS => ?_)
                            have hO := hO.st ho n4
                            have hWk := hWk.st ho n7
                            have hWd := hWd.st ho n9
                            have hSn := hSn.st ho n10
                            refine lv_iinc (v := nI (e9 + 1)) (lv' := [(4, .int (nI (e9 + 1))), (0, .ref x)]) hx hb dX1_encode_281 hl (k := 1) rfl (nI_1 _) (by decide) rfl (fun ls hl => ?_)
                            refine lv_goto (tgt := 253) hx hb dX1_encode_284 (by decide) ?_
                            exact ih (e9 + 1) (va_up g2 e9 (s2 e9)) _ _ ls (by omega) (fun j hj => by
                              unfold va_up
                              by_cases hje : j = e9
                              · rw [if_pos hje, hje]
                              · rw [if_neg hje]; exact hg2 j (by omega)) hO hWk hWd hSn hGt hS (lv_sub hl [1, 0] rfl)
                      exact loopE (i + r) 0 cg _ _ ls (by omega) (fun j hj => absurd hj (by omega)) hO hWk hWd hSn hGt hS (lv_sub hl [1, 0] rfl)
                    · exact absurd h5 (by omega)
                  | succ k2 ih =>
                    intro j9 s2 H locs ls hk2 hs1 hs2 hO hWk hWd hSn hGt hr hS hl
                    refine lv_iload hx hb dX1_encode_211 (lv_at hl 2 rfl) ?_
                    refine lv_aload_n hx hb dX1_encode_213 rfl (lv_at hl 0 rfl) ?_
                    refine va_get (ci := 2) (v := .int (nI r)) (C := RX1) (T := TX1) (N := 7) hx hb hts in_X1 hown hK.1 (va_P1 hO) 0 rfl rfl 5 (by decide) (hts _ q42) (fun _ h9 => h9) rfl dX1_encode_214 ?_
                    refine rs_cge (tgt := 250) hx hb dX1_encode_217 (by decide) (by omega) (by omega) (fun h5 => ?_) (fun h5 => ?_)
                    · exact absurd h5 (by omega)
                    · have hv9 := (v j9).isLt
                      refine lv_aload_n hx hb dX1_encode_220 rfl (lv_at hl 0 rfl) ?_
                      refine va_get (ci := 2) (v := .ref sn) (C := RX1) (T := TX1) (N := 7) hx hb hts in_X1 hown hK.1 (va_P1 hO) 0 rfl rfl 2 (by decide) (hts _ q39) (fun _ h9 => h9) rfl dX1_encode_221 ?_
                      refine lv_aload_n hx hb dX1_encode_224 rfl (lv_at hl 0 rfl) ?_
                      refine va_get (ci := 2) (v := .int (nI i)) (C := RX1) (T := TX1) (N := 7) hx hb hts in_X1 hown hK.1 (va_P1 hO) 0 rfl rfl 4 (by decide) (hts _ q41) (fun _ h9 => h9) rfl dX1_encode_225 ?_
                      refine lv_iload hx hb dX1_encode_228 (lv_at hl 2 rfl) ?_
                      refine rs_iadd hx hb dX1_encode_230 ?_
                      refine lv_sipush (v := nI 929) hx hb dX1_encode_231 (by decide) ?_
                      refine lv_aload_n hx hb dX1_encode_234 rfl (lv_at hl 1 rfl) ?_
                      refine lv_iload hx hb dX1_encode_235 (lv_at hl 2 rfl) ?_
                      refine rs_iald hx hb hK hr (by omega) (by omega) dX1_encode_237 ?_
                      refine rs_isub hx hb dX1_encode_238 (by omega) ?_
                      refine lv_sipush (v := nI 929) hx hb dX1_encode_239 (by decide) ?_
                      refine rs_irem hx hb dX1_encode_242 (by decide) (by omega) (by decide) ?_
                      refine rs_top (b := (0 - v j9).val) (rs_neg_val _) ?_
                      refine rs_iast hx hb hK (0 - v j9) hSn hS (Or.inl (Or.inr (Or.inr (Or.inl rfl)))) (by omega) (by omega) dX1_encode_243 (fun H locs hSn ho hz hS => ?_)
                      have hO := hO.st ho n3
                      have hWk := hWk.st ho n6
                      have hWd := hWd.st ho n8
                      have hGt := hGt.st ho n10.symm
                      have hr := hr.st ho ne_sn_rr.symm
                      refine lv_iinc (v := nI (j9 + 1)) (lv' := [(4, .int (nI (j9 + 1))), (0, .ref x), (3, .ref rr)]) hx hb dX1_encode_244 hl (k := 2) rfl (nI_1 _) (by decide) rfl (fun ls hl => ?_)
                      refine lv_goto (tgt := 211) hx hb dX1_encode_247 (by decide) ?_
                      exact ih (j9 + 1) (va_up s2 (i + j9) (0 - v j9)) _ _ ls (by omega) (fun j hj => by
                        unfold va_up
                        rw [if_neg (by omega)]; exact hs1 j hj) (fun j hj => by
                        unfold va_up
                        by_cases hjj : j = j9
                        · rw [if_pos (by omega), hjj]
                        · rw [if_neg (by omega)]; exact hs2 j (by omega)) hO hWk hWd hSn hGt hr hS (lv_sub hl [1, 2, 0] rfl)
                exact loopD r 0 sc _ _ ls (by omega) hsc (fun j hj => absurd hj (by omega)) hO hWk hWd hSn hGt hr hS (lv_sub hl [1, 2, 0] rfl)
              · exact absurd h4 (by omega)
            | succ k ih =>
              intro i v sc H locs ls hk hsc hev hO hWk hWd hSn hGt hg hr hS hl
              refine lv_iload hx hb dX1_encode_97 (lv_at hl 3 rfl) ?_
              refine lv_aload_n hx hb dX1_encode_99 rfl (lv_at hl 0 rfl) ?_
              refine va_get (ci := 2) (v := .int (nI D)) (C := RX1) (T := TX1) (N := 7) hx hb hts in_X1 hown hK.1 (va_P1 hO) 0 rfl rfl 4 (by decide) (hts _ q41) (fun _ h9 => h9) rfl dX1_encode_100 ?_
              refine rs_cge (tgt := 208) hx hb dX1_encode_103 (by decide) (by omega) (by omega) (fun h4 => ?_) (fun h4 => ?_)
              · exact absurd h4 (by omega)
              · have hcw9 := (cw i).isLt
                have hv09 := (v 0).isLt
                refine lv_aload_n hx hb dX1_encode_106 rfl (lv_at hl 0 rfl) ?_
                refine va_get (ci := 2) (v := .ref wd) (C := RX1) (T := TX1) (N := 7) hx hb hts in_X1 hown hK.1 (va_P1 hO) 0 rfl rfl 1 (by decide) (hts _ q38) (fun _ h9 => h9) rfl dX1_encode_107 ?_
                refine lv_iload hx hb dX1_encode_110 (lv_at hl 3 rfl) ?_
                refine rs_iald hx hb hK hWd (by omega) (by omega) dX1_encode_112 ?_
                refine lv_aload_n hx hb dX1_encode_113 rfl (lv_at hl 2 rfl) ?_
                refine lv_iconst (v := nI 0) hx hb dX1_encode_114 (by decide) ?_
                refine rs_iald hx hb hK hr (by omega) (by omega) dX1_encode_115 ?_
                refine rs_iadd hx hb dX1_encode_116 ?_
                refine lv_sipush (v := nI 929) hx hb dX1_encode_117 (by decide) ?_
                refine rs_irem hx hb dX1_encode_120 (by decide) (by omega) (by decide) ?_
                refine rs_top (b := (cw i + v 0).val) rfl ?_
                refine lv_istore (lv' := [(5, .int (kI (cw i + v 0))), (0, .ref x), (1, .ref gg), (3, .ref rr), (4, .int (nI i))]) hx hb dX1_encode_121 hl (by decide) rfl (fun ls hl => ?_)
                refine lv_iconst (v := nI 0) hx hb dX1_encode_123 (by decide) ?_
                refine lv_istore (lv' := [(6, .int (nI 0)), (5, .int (kI (cw i + v 0))), (0, .ref x), (1, .ref gg), (3, .ref rr), (4, .int (nI i))]) hx hb dX1_encode_124 hl (by decide) rfl (fun ls hl => ?_)
                have ih0 := ih
                have innerC : ∀ (k2 : Nat) (q : Nat) (v1 : Nat → rsK) (H : Heap) (locs : List Loc) (ls : Array Slot), q + k2 = r → (∀ j, v1 j = if j < q then rs_nx v r j - (cw i + v 0) * u (j + 1) else v j) → rs_O E H x 2 [.ref wk, .ref wd, .ref sn, .ref gt, .int (nI D), .int (nI r), .int (nI mk)] → rs_O E H wk 1 [.ref (E.2.2 0)] → rs_A E H wd 64 cw → rs_A E H sn 64 sc → rs_A E H gt 64 cg → rs_A E H gg (r + 1) u → rs_A E H rr r v1 → va_S (rs_W0 (rs_w4 x wd sn gt) s.heap.size) s.heap H locs → lv_has ls 8 [(0, .ref x), (1, .ref gg), (3, .ref rr), (4, .int (nI i)), (5, .int (kI (cw i + v 0))), (6, .int (nI q))] → W p l e R s m args below meth c H locs (0 + 1 + 1) (0 + (r + 1) + r) Q (F0 m 126 ls []) := by
                  intro k2
                  induction k2 with
                  | zero =>
                    intro q v1 H locs ls hk2 hv1 hO hWk hWd hSn hGt hg hr hS hl
                    refine lv_iload hx hb dX1_encode_126 (lv_at hl 5 rfl) ?_
                    refine lv_aload_n hx hb dX1_encode_128 rfl (lv_at hl 0 rfl) ?_
                    refine va_get (ci := 2) (v := .int (nI r)) (C := RX1) (T := TX1) (N := 7) hx hb hts in_X1 hown hK.1 (va_P1 hO) 0 rfl rfl 5 (by decide) (hts _ q42) (fun _ h9 => h9) rfl dX1_encode_129 ?_
                    refine rs_cge (tgt := 188) hx hb dX1_encode_132 (by decide) (by omega) (by omega) (fun h5 => ?_) (fun h5 => ?_)
                    · refine lv_aload_n hx hb dX1_encode_188 rfl (lv_at hl 0 rfl) ?_
                      refine va_get (ci := 2) (v := .ref sn) (C := RX1) (T := TX1) (N := 7) hx hb hts in_X1 hown hK.1 (va_P1 hO) 0 rfl rfl 2 (by decide) (hts _ q39) (fun _ h9 => h9) rfl dX1_encode_189 ?_
                      refine lv_iload hx hb dX1_encode_192 (lv_at hl 3 rfl) ?_
                      refine lv_aload_n hx hb dX1_encode_194 rfl (lv_at hl 0 rfl) ?_
                      refine va_get (ci := 2) (v := .ref wd) (C := RX1) (T := TX1) (N := 7) hx hb hts in_X1 hown hK.1 (va_P1 hO) 0 rfl rfl 1 (by decide) (hts _ q38) (fun _ h9 => h9) rfl dX1_encode_195 ?_
                      refine lv_iload hx hb dX1_encode_198 (lv_at hl 3 rfl) ?_
                      refine rs_iald hx hb hK hWd (by omega) (by omega) dX1_encode_200 ?_
                      refine rs_iast hx hb hK (cw i) hSn hS (Or.inl (Or.inr (Or.inr (Or.inl rfl)))) (by omega) (by omega) dX1_encode_201 (fun H locs hSn ho hz hS => ?_)
                      have hO := hO.st ho n3
                      have hWk := hWk.st ho n6
                      have hWd := hWd.st ho n8
                      have hGt := hGt.st ho n10.symm
                      have hg := hg.st ho ne_sn_gg.symm
                      have hr := hr.st ho ne_sn_rr.symm
                      refine lv_iinc (v := nI (i + 1)) (lv' := [(4, .int (nI (i + 1))), (0, .ref x), (1, .ref gg), (3, .ref rr), (5, .int (kI (cw i + v 0))), (6, .int (nI q))]) hx hb dX1_encode_202 hl (k := 3) rfl (nI_1 _) (by decide) rfl (fun ls hl => ?_)
                      refine lv_goto (tgt := 97) hx hb dX1_encode_205 (by decide) ?_
                      exact ih0 (i + 1) v1 (va_up sc i (cw i)) _ _ ls (by omega) (fun j hj => by
                        unfold va_up
                        by_cases hji : j = i
                        · rw [if_pos hji, hji]
                        · rw [if_neg hji]; exact hsc j (by omega)) (fun t ht1 ht2 => by
                        rw [rs_ev_s]
                        exact rs_lfsr hX1 hu0 (hur t ht1 ht2) rfl (fun j hj => by rw [hv1 j, if_pos (by omega)]) (hev t ht1 ht2)) hO hWk hWd hSn hGt hg hr hS (lv_sub hl [1, 2, 3, 0] rfl)
                    · exact absurd h5 (by omega)
                  | succ k2 ih =>
                    intro q v1 H locs ls hk2 hv1 hO hWk hWd hSn hGt hg hr hS hl
                    refine lv_iload hx hb dX1_encode_126 (lv_at hl 5 rfl) ?_
                    refine lv_aload_n hx hb dX1_encode_128 rfl (lv_at hl 0 rfl) ?_
                    refine va_get (ci := 2) (v := .int (nI r)) (C := RX1) (T := TX1) (N := 7) hx hb hts in_X1 hown hK.1 (va_P1 hO) 0 rfl rfl 5 (by decide) (hts _ q42) (fun _ h9 => h9) rfl dX1_encode_129 ?_
                    refine rs_cge (tgt := 188) hx hb dX1_encode_132 (by decide) (by omega) (by omega) (fun h5 => ?_) (fun h5 => ?_)
                    · exact absurd h5 (by omega)
                    · refine lv_iload hx hb dX1_encode_135 (lv_at hl 5 rfl) ?_
                      refine lv_iconst (v := nI 1) hx hb dX1_encode_137 (by decide) ?_
                      refine rs_iadd hx hb dX1_encode_138 ?_
                      refine lv_aload_n hx hb dX1_encode_139 rfl (lv_at hl 0 rfl) ?_
                      refine va_get (ci := 2) (v := .int (nI r)) (C := RX1) (T := TX1) (N := 7) hx hb hts in_X1 hown hK.1 (va_P1 hO) 0 rfl rfl 5 (by decide) (hts _ q42) (fun _ h9 => h9) rfl dX1_encode_140 ?_
                      refine rs_cge (tgt := 155) hx hb dX1_encode_143 (by decide) (by omega) (by omega) (fun h6 => ?_) (fun h6 => ?_)
                      · refine lv_iconst (v := nI 0) hx hb dX1_encode_155 (by decide) ?_
                        refine rs_top (b := (0 : rsK).val) rfl ?_
                        refine lv_istore (lv' := [(7, .int (kI (0 : rsK))), (0, .ref x), (1, .ref gg), (3, .ref rr), (4, .int (nI i)), (5, .int (kI (cw i + v 0))), (6, .int (nI q))]) hx hb dX1_encode_156 hl (by decide) rfl (fun ls hl => ?_)
                        have hl1 := rs_lin_lt (0) (cw i + v 0) (u (q + 1))
                        have hl2 := (cw i + v 0).isLt
                        refine lv_aload_n hx hb dX1_encode_158 rfl (lv_at hl 3 rfl) ?_
                        refine lv_iload hx hb dX1_encode_159 (lv_at hl 6 rfl) ?_
                        refine lv_iload hx hb dX1_encode_161 (lv_at hl 0 rfl) ?_
                        refine lv_sipush (v := nI 929) hx hb dX1_encode_163 (by decide) ?_
                        refine lv_iload hx hb dX1_encode_166 (lv_at hl 5 rfl) ?_
                        refine rs_isub hx hb dX1_encode_168 (by omega) ?_
                        refine lv_aload_n hx hb dX1_encode_169 rfl (lv_at hl 2 rfl) ?_
                        refine lv_iload hx hb dX1_encode_170 (lv_at hl 6 rfl) ?_
                        refine lv_iconst (v := nI 1) hx hb dX1_encode_172 (by decide) ?_
                        refine rs_iadd hx hb dX1_encode_173 ?_
                        refine rs_iald hx hb hK hg (by omega) (by omega) dX1_encode_174 ?_
                        refine rs_imul hx hb dX1_encode_175 ?_
                        refine rs_iadd hx hb dX1_encode_176 ?_
                        refine lv_sipush (v := nI 929) hx hb dX1_encode_177 (by decide) ?_
                        refine rs_irem hx hb dX1_encode_180 (by decide) hl1 (by decide) ?_
                        refine rs_top (b := (rs_nx v r q - (cw i + v 0) * u (q + 1)).val) (by rw [show rs_nx v r q = 0 from if_neg (show ¬ q + 1 < r by omega)]; exact rs_lin _ _ _) ?_
                        refine rs_iast hx hb hK (rs_nx v r q - (cw i + v 0) * u (q + 1)) hr hS (hA _ hs_rr) (by omega) (by omega) dX1_encode_181 (fun H locs hr ho hz hS => ?_)
                        have hO := hO.st ho ne_x_rr
                        have hWk := hWk.st ho ne_wk_rr
                        have hWd := hWd.st ho ne_wd_rr
                        have hSn := hSn.st ho ne_sn_rr
                        have hGt := hGt.st ho ne_gt_rr
                        have hg := hg.st ho ne_gg_rr
                        refine lv_iinc (v := nI (q + 1)) (lv' := [(6, .int (nI (q + 1))), (7, .int (kI (0 : rsK))), (0, .ref x), (1, .ref gg), (3, .ref rr), (4, .int (nI i)), (5, .int (kI (cw i + v 0)))]) hx hb dX1_encode_182 hl (k := 6) rfl (nI_1 _) (by decide) rfl (fun ls hl => ?_)
                        refine lv_goto (tgt := 126) hx hb dX1_encode_185 (by decide) ?_
                        exact ih (q + 1) (va_up v1 q (rs_nx v r q - (cw i + v 0) * u (q + 1))) _ _ ls (by omega) (fun j => by
                          unfold va_up
                          by_cases hjq : j = q
                          · rw [if_pos hjq, if_pos (by omega), hjq]
                          · rw [if_neg hjq, hv1 j]
                            by_cases hj2 : j < q
                            · rw [if_pos hj2, if_pos (by omega)]
                            · rw [if_neg hj2, if_neg (by omega)]) hO hWk hWd hSn hGt hg hr hS (lv_sub hl [2, 3, 4, 5, 6, 0] rfl)
                      · refine lv_aload_n hx hb dX1_encode_146 rfl (lv_at hl 2 rfl) ?_
                        refine lv_iload hx hb dX1_encode_147 (lv_at hl 5 rfl) ?_
                        refine lv_iconst (v := nI 1) hx hb dX1_encode_149 (by decide) ?_
                        refine rs_iadd hx hb dX1_encode_150 ?_
                        refine rs_iald hx hb hK hr (by omega) (by omega) dX1_encode_151 ?_
                        refine rs_top (b := (v (q + 1)).val) (by rw [hv1 (q + 1), if_neg (by omega)]) ?_
                        refine lv_goto (tgt := 156) hx hb dX1_encode_152 (by decide) ?_
                        refine lv_istore (lv' := [(7, .int (kI (v (q + 1)))), (0, .ref x), (1, .ref gg), (3, .ref rr), (4, .int (nI i)), (5, .int (kI (cw i + v 0))), (6, .int (nI q))]) hx hb dX1_encode_156 hl (by decide) rfl (fun ls hl => ?_)
                        have hl1 := rs_lin_lt (v (q + 1)) (cw i + v 0) (u (q + 1))
                        have hl2 := (cw i + v 0).isLt
                        refine lv_aload_n hx hb dX1_encode_158 rfl (lv_at hl 3 rfl) ?_
                        refine lv_iload hx hb dX1_encode_159 (lv_at hl 6 rfl) ?_
                        refine lv_iload hx hb dX1_encode_161 (lv_at hl 0 rfl) ?_
                        refine lv_sipush (v := nI 929) hx hb dX1_encode_163 (by decide) ?_
                        refine lv_iload hx hb dX1_encode_166 (lv_at hl 5 rfl) ?_
                        refine rs_isub hx hb dX1_encode_168 (by omega) ?_
                        refine lv_aload_n hx hb dX1_encode_169 rfl (lv_at hl 2 rfl) ?_
                        refine lv_iload hx hb dX1_encode_170 (lv_at hl 6 rfl) ?_
                        refine lv_iconst (v := nI 1) hx hb dX1_encode_172 (by decide) ?_
                        refine rs_iadd hx hb dX1_encode_173 ?_
                        refine rs_iald hx hb hK hg (by omega) (by omega) dX1_encode_174 ?_
                        refine rs_imul hx hb dX1_encode_175 ?_
                        refine rs_iadd hx hb dX1_encode_176 ?_
                        refine lv_sipush (v := nI 929) hx hb dX1_encode_177 (by decide) ?_
                        refine rs_irem hx hb dX1_encode_180 (by decide) hl1 (by decide) ?_
                        refine rs_top (b := (rs_nx v r q - (cw i + v 0) * u (q + 1)).val) (by rw [show rs_nx v r q = v (q + 1) from if_pos h6]; exact rs_lin _ _ _) ?_
                        refine rs_iast hx hb hK (rs_nx v r q - (cw i + v 0) * u (q + 1)) hr hS (hA _ hs_rr) (by omega) (by omega) dX1_encode_181 (fun H locs hr ho hz hS => ?_)
                        have hO := hO.st ho ne_x_rr
                        have hWk := hWk.st ho ne_wk_rr
                        have hWd := hWd.st ho ne_wd_rr
                        have hSn := hSn.st ho ne_sn_rr
                        have hGt := hGt.st ho ne_gt_rr
                        have hg := hg.st ho ne_gg_rr
                        refine lv_iinc (v := nI (q + 1)) (lv' := [(6, .int (nI (q + 1))), (7, .int (kI (v (q + 1)))), (0, .ref x), (1, .ref gg), (3, .ref rr), (4, .int (nI i)), (5, .int (kI (cw i + v 0)))]) hx hb dX1_encode_182 hl (k := 6) rfl (nI_1 _) (by decide) rfl (fun ls hl => ?_)
                        refine lv_goto (tgt := 126) hx hb dX1_encode_185 (by decide) ?_
                        exact ih (q + 1) (va_up v1 q (rs_nx v r q - (cw i + v 0) * u (q + 1))) _ _ ls (by omega) (fun j => by
                          unfold va_up
                          by_cases hjq : j = q
                          · rw [if_pos hjq, if_pos (by omega), hjq]
                          · rw [if_neg hjq, hv1 j]
                            by_cases hj2 : j < q
                            · rw [if_pos hj2, if_pos (by omega)]
                            · rw [if_neg hj2, if_neg (by omega)]) hO hWk hWd hSn hGt hg hr hS (lv_sub hl [2, 3, 4, 5, 6, 0] rfl)
                exact innerC r 0 v _ _ ls (by omega) (fun j => by rw [if_neg (by omega)]) hO hWk hWd hSn hGt hg hr hS (lv_sub hl [2, 3, 4, 5, 1, 0] rfl)
          exact loopB D 0 (fun _ => 0) cs _ _ ls (by omega) (fun j hj => absurd hj (by omega)) (fun t _ _ => by rw [rs_ev_z r (fun _ _ => rfl), rs_ev_0]; grind) hO hWk hWd hSn hGt hg hr hS (lv_sub hl [2, 3, 1, 0] rfl)
        · exact absurd h3 (by omega)
      | succ k ih =>
        intro r u H locs ls hk hu0 huz hur hO hWk hWd hSn hGt hg hS hl
        refine lv_iload_n hx hb dX1_encode_26 rfl (lv_at hl 3 rfl) ?_
        refine lv_aload_n hx hb dX1_encode_27 rfl (lv_at hl 0 rfl) ?_
        refine va_get (ci := 2) (v := .int (nI X)) (C := RX1) (T := TX1) (N := 7) hx hb hts in_X1 hown hK.1 (va_P1 hO) 0 rfl rfl 5 (by decide) (hts _ q42) (fun _ h9 => h9) rfl dX1_encode_28 ?_
        refine rs_cgt (tgt := 87) hx hb dX1_encode_31 (by decide) (by omega) (by omega) (fun h3 => ?_) (fun h3 => ?_)
        · exact absurd h3 (by omega)
        · refine lv_iload_n hx hb dX1_encode_34 rfl (lv_at hl 2 rfl) ?_
          refine lv_iconst (v := nI 3) hx hb dX1_encode_35 (by decide) ?_
          refine rs_imul hx hb dX1_encode_36 ?_
          refine lv_sipush (v := nI 929) hx hb dX1_encode_37 (by decide) ?_
          refine rs_irem hx hb dX1_encode_40 (by decide) (by have := (rs_x r).isLt; omega) (by decide) ?_
          refine rs_top (b := (rs_x (r + 1)).val) (rs_x3 r) ?_
          refine lv_istore_n (lv' := [(2, .int (kI (rs_x (r + 1)))), (0, .ref x), (1, .ref gg), (3, .int (nI (r + 1)))]) hx hb dX1_encode_41 rfl hl (by decide) rfl (fun ls hl => ?_)
          refine lv_iload_n hx hb dX1_encode_42 rfl (lv_at hl 3 rfl) ?_
          refine lv_istore (lv' := [(4, .int (nI (r + 1))), (2, .int (kI (rs_x (r + 1)))), (0, .ref x), (1, .ref gg), (3, .int (nI (r + 1)))]) hx hb dX1_encode_43 hl (by decide) rfl (fun ls hl => ?_)
          have ih0 := ih
          have inner : ∀ (k2 : Nat) (q : Nat) (u1 : Nat → rsK) (H : Heap) (locs : List Loc) (ls : Array Slot), q = k2 → q ≤ r + 1 → (∀ j, u1 j = if q < j ∧ j ≤ r + 1 then u j - rs_x (r + 1) * u (j - 1) else u j) → rs_O E H x 2 [.ref wk, .ref wd, .ref sn, .ref gt, .int (nI D), .int (nI X), .int (nI mk)] → rs_O E H wk 1 [.ref (E.2.2 0)] → rs_A E H wd 64 cw → rs_A E H sn 64 cs → rs_A E H gt 64 cg → rs_A E H gg (X + 1) u1 → va_S (rs_W0 (rs_w4 x wd sn gt) s.heap.size) s.heap H locs → lv_has ls 8 [(0, .ref x), (1, .ref gg), (2, .int (kI (rs_x (r + 1)))), (3, .int (nI (r + 1))), (4, .int (nI q))] → W p l e R s m args below meth c H locs (0 + 1) (0 + (X + 1)) Q (F0 m 45 ls []) := by
            intro k2
            induction k2 with
            | zero =>
              intro q u1 H locs ls hk2 hq hu hO hWk hWd hSn hGt hg hS hl
              subst hk2
              refine lv_iload hx hb dX1_encode_45 (lv_at hl 4 rfl) ?_
              refine rs_ifle (tgt := 81) hx hb dX1_encode_47 (by decide) (by omega) (fun h4 => ?_) (fun h4 => ?_)
              · refine lv_iinc (v := nI ((r + 1) + 1)) (lv' := [(3, .int (nI ((r + 1) + 1))), (0, .ref x), (1, .ref gg), (2, .int (kI (rs_x (r + 1)))), (4, .int (nI 0))]) hx hb dX1_encode_81 hl (k := 3) rfl (nI_1 _) (by decide) rfl (fun ls hl => ?_)
                refine lv_goto (tgt := 26) hx hb dX1_encode_84 (by decide) ?_
                exact ih0 (r + 1) u1 _ _ ls (by omega) (by rw [hu 0, if_neg (by omega)]; exact hu0) (fun j hj => by rw [hu j, if_neg (by omega)]; exact huz j (by omega)) (fun t ht1 ht2 => by
                  rw [rs_gen_step (huz (r + 1) (by omega)) hu (rs_x t)]
                  rcases Nat.lt_or_ge r t with h8 | h8
                  · rw [show t = r + 1 by omega]; grind
                  · rw [hur t ht1 h8]; grind) hO hWk hWd hSn hGt hg hS (lv_sub hl [1, 2, 3, 0] rfl)
              · exact absurd h4 (by omega)
            | succ k2 ih =>
              intro q u1 H locs ls hk2 hq hu hO hWk hWd hSn hGt hg hS hl
              subst hk2
              refine lv_iload hx hb dX1_encode_45 (lv_at hl 4 rfl) ?_
              refine rs_ifle (tgt := 81) hx hb dX1_encode_47 (by decide) (by omega) (fun h4 => ?_) (fun h4 => ?_)
              · exact absurd h4 (by omega)
              · have hl1 := rs_lin_lt (u1 (k2 + 1)) (rs_x (r + 1)) (u1 k2)
                have hl2 := (rs_x (r + 1)).isLt
                refine lv_aload_n hx hb dX1_encode_50 rfl (lv_at hl 1 rfl) ?_
                refine lv_iload hx hb dX1_encode_51 (lv_at hl 4 rfl) ?_
                refine lv_aload_n hx hb dX1_encode_53 rfl (lv_at hl 1 rfl) ?_
                refine lv_iload hx hb dX1_encode_54 (lv_at hl 4 rfl) ?_
                refine rs_iald hx hb hK hg (by omega) (by omega) dX1_encode_56 ?_
                refine lv_sipush (v := nI 929) hx hb dX1_encode_57 (by decide) ?_
                refine lv_iload_n hx hb dX1_encode_60 rfl (lv_at hl 2 rfl) ?_
                refine rs_isub hx hb dX1_encode_61 (by omega) ?_
                refine lv_aload_n hx hb dX1_encode_62 rfl (lv_at hl 1 rfl) ?_
                refine lv_iload hx hb dX1_encode_63 (lv_at hl 4 rfl) ?_
                refine lv_iconst (v := nI 1) hx hb dX1_encode_65 (by decide) ?_
                refine rs_isub hx hb dX1_encode_66 (by omega) ?_
                refine rs_top (b := k2) (by omega) ?_
                refine rs_iald hx hb hK hg (by omega) (by omega) dX1_encode_67 ?_
                refine rs_imul hx hb dX1_encode_68 ?_
                refine rs_iadd hx hb dX1_encode_69 ?_
                refine lv_sipush (v := nI 929) hx hb dX1_encode_70 (by decide) ?_
                refine rs_irem hx hb dX1_encode_73 (by decide) hl1 (by decide) ?_
                refine rs_top (b := (u1 (k2 + 1) - rs_x (r + 1) * u1 k2).val) (rs_lin _ _ _) ?_
                refine rs_iast hx hb hK (u1 (k2 + 1) - rs_x (r + 1) * u1 k2) hg hS (hA _ hs_gg) (by omega) (by omega) dX1_encode_74 (fun H locs hg ho hz hS => ?_)
                have hO := hO.st ho ne_x_gg
                have hWk := hWk.st ho ne_wk_gg
                have hWd := hWd.st ho ne_wd_gg
                have hSn := hSn.st ho ne_sn_gg
                have hGt := hGt.st ho ne_gt_gg
                refine lv_iinc (v := nI k2) (lv' := [(4, .int (nI k2)), (0, .ref x), (1, .ref gg), (2, .int (kI (rs_x (r + 1)))), (3, .int (nI (r + 1)))]) hx hb dX1_encode_75 hl (k := 4) rfl (pk_m1 _) (by decide) rfl (fun ls hl => ?_)
                refine lv_goto (tgt := 45) hx hb dX1_encode_78 (by decide) ?_
                exact ih k2 (va_up u1 (k2 + 1) (u1 (k2 + 1) - rs_x (r + 1) * u1 k2)) _ _ ls rfl (by omega) (fun j => by
                  unfold va_up
                  by_cases hj : j = k2 + 1
                  · rw [if_pos hj, if_pos (by omega), hu (k2 + 1), if_neg (by omega), hu k2, if_neg (by omega), hj]; rfl
                  · rw [if_neg hj, hu j]
                    by_cases hj2 : k2 + 1 < j ∧ j ≤ r + 1
                    · rw [if_pos hj2, if_pos (by omega)]
                    · rw [if_neg hj2, if_neg (by omega)]) hO hWk hWd hSn hGt hg hS (lv_sub hl [1, 2, 3, 4, 0] rfl)
          exact inner (r + 1) (r + 1) u _ _ ls rfl (Nat.le_refl _) (fun j => by rw [if_neg (by omega)]) hO hWk hWd hSn hGt hg hS (lv_sub hl [2, 3, 1, 4, 0] rfl)
    exact loopA X 0 (va_up (fun _ => 0) 0 1) _ _ ls (by omega) rfl (fun j hj => by unfold va_up; rw [if_neg (by omega)]) (fun t ht1 ht2 => absurd ht1 (by omega)) hO hWk hWd hSn hGt hg hS (lv_sub hl [3, 2, 1, 0] rfl)
  · exact absurd h1 (by omega)
end
section
/-! PdfRepair.repair -/
set_option maxHeartbeats 4000000 in
set_option maxRecDepth 100000 in
theorem met_X1_repair (E : rsE) (l : Launch) (x wk wd sn gt D w8 v : Nat) (cw cs cg : Nat → rsK) (hD1 : 1 ≤ D) (hD2 : D ≤ 20) (hw1 : 1 ≤ w8) (hw8 : w8 ≤ 8) (hcs : ∀ t, 1 ≤ t → t ≤ 2 * w8 → rs_ev cs (D + 2 * w8) (rs_x t) = 0) (hv : (rs_el (fun j => cg j - cs j) (D + 2 * w8) (D + 2 * w8)).length = v) (hvw : v ≤ w8) : rs_CiW E l yX1_repair cX1_repair 5 .int [(99, 115, 118, 42)] ⟨6, 5102, 291040, 170⟩ (rs_w4 x wd sn gt) [.ref x] (fun H => rs_Wd E H x wk wd sn gt D (2 * w8) 1 cw cs cg ∧ rs_Di E x wk wd sn gt ∧ ∀ i, i < 8 → E.2.2 i < H.size) (fun r H => r = nI v ∧ ∃ g2 : Nat → rsK, rs_Wd E H x wk wd sn gt D (2 * w8) 1 cw cs g2 ∧ ∀ j, j < D + 2 * w8 → g2 j = cs j) := by
  refine rs_goIW (by decide) (Nat.le_of_ble_eq_true rfl) (fun p e R s m args below meth c Q hx hb hml hown hts hnm hK hF hpre hRf hRc hRs hRl hA hS hret ls hl => ?_)
  have hl : lv_has ls 5 [(0, .ref x)] := hl
  obtain ⟨hpre1, hDi, hai⟩ := hpre
  have hpre := And.intro hpre1 hDi
  obtain ⟨⟨hO, hWk, hWd, hSn, hGt⟩, hDi⟩ := hpre
  obtain ⟨⟨n1, n2, n3, n4⟩, ⟨n5, n6, n7⟩, ⟨n8, n9⟩, n10, n11⟩ := id hDi
  refine lv_aload_n hx hb dX1_repair_0 rfl (lv_at hl 0 rfl) ?_
  refine va_get (ci := 2) (v := .int (nI 1)) (C := RX1) (T := TX1) (N := 7) hx hb hts in_X1 hown hK.1 (va_P1 hO) 0 rfl rfl 6 (by decide) (hts _ q43) (fun _ h9 => h9) rfl dX1_repair_1 ?_
  refine rs_ifne (tgt := 10) hx hb dX1_repair_4 (by decide) (by decide) (fun h1 => ?_) (fun h1 => ?_)
  · refine lv_iconst (v := nI 0) hx hb dX1_repair_10 (by decide) ?_
    refine lv_istore_n (lv' := [(1, .int (nI 0)), (0, .ref x)]) hx hb dX1_repair_11 rfl hl (by decide) rfl (fun ls hl => ?_)
    refine lv_iconst (v := nI 0) hx hb dX1_repair_12 (by decide) ?_
    refine lv_istore_n (lv' := [(2, .int (nI 0)), (1, .int (nI 0)), (0, .ref x)]) hx hb dX1_repair_13 rfl hl (by decide) rfl (fun ls hl => ?_)
    have hlen : ∀ n, (rs_el (fun j => cg j - cs j) (D + 2 * w8) n).length ≤ n := by
      intro n
      induction n with
      | zero => exact Nat.le_refl 0
      | succ n ih =>
        show (if cg n - cs n = 0 then _ else _ : List (rsK × rsK)).length ≤ n + 1
        split
        · exact Nat.le_succ_of_le ih
        · exact Nat.succ_le_succ ih
    have loop : ∀ (k : Nat) (i : Nat) (ls : Array Slot), i + k = D + 2 * w8 → lv_has ls 5 [(0, .ref x), (1, .int (nI ((rs_el (fun j => cg j - cs j) (D + 2 * w8) i).length))), (2, .int (nI i))] → W p l e R s m args below meth c s.heap [] 0 0 Q (F0 m 14 ls []) := by
      intro k
      induction k with
      | zero =>
        intro i ls hk hl
        refine lv_iload_n hx hb dX1_repair_14 rfl (lv_at hl 2 rfl) ?_
        refine lv_aload_n hx hb dX1_repair_15 rfl (lv_at hl 0 rfl) ?_
        refine va_get (ci := 2) (v := .int (nI D)) (C := RX1) (T := TX1) (N := 7) hx hb hts in_X1 hown hK.1 (va_P1 hO) 0 rfl rfl 4 (by decide) (hts _ q41) (fun _ h9 => h9) rfl dX1_repair_16 ?_
        refine lv_aload_n hx hb dX1_repair_19 rfl (lv_at hl 0 rfl) ?_
        refine va_get (ci := 2) (v := .int (nI (2 * w8))) (C := RX1) (T := TX1) (N := 7) hx hb hts in_X1 hown hK.1 (va_P1 hO) 0 rfl rfl 5 (by decide) (hts _ q42) (fun _ h9 => h9) rfl dX1_repair_20 ?_
        refine rs_iadd hx hb dX1_repair_23 ?_
        refine rs_cge (tgt := 51) hx hb dX1_repair_24 (by decide) (by omega) (by omega) (fun h3 => ?_) (fun h3 => ?_)
        · have hi0 : i = D + 2 * w8 := by omega
          subst hi0
          rw [hv] at hl
          refine lv_iconst (v := nI 2) hx hb dX1_repair_51 (by decide) ?_
          refine lv_iload_n hx hb dX1_repair_52 rfl (lv_at hl 1 rfl) ?_
          refine rs_imul hx hb dX1_repair_53 ?_
          refine lv_aload_n hx hb dX1_repair_54 rfl (lv_at hl 0 rfl) ?_
          refine va_get (ci := 2) (v := .int (nI (2 * w8))) (C := RX1) (T := TX1) (N := 7) hx hb hts in_X1 hown hK.1 (va_P1 hO) 0 rfl rfl 5 (by decide) (hts _ q42) (fun _ h9 => h9) rfl dX1_repair_55 ?_
          refine rs_cle (tgt := 64) hx hb dX1_repair_58 (by decide) (by omega) (by omega) (fun h4 => ?_) (fun h4 => ?_)
          · refine lv_aload_n hx hb dX1_repair_64 rfl (lv_at hl 0 rfl) ?_
            refine va_get (ci := 2) (v := .int (nI D)) (C := RX1) (T := TX1) (N := 7) hx hb hts in_X1 hown hK.1 (va_P1 hO) 0 rfl rfl 4 (by decide) (hts _ q41) (fun _ h9 => h9) rfl dX1_repair_65 ?_
            refine lv_aload_n hx hb dX1_repair_68 rfl (lv_at hl 0 rfl) ?_
            refine va_get (ci := 2) (v := .int (nI (2 * w8))) (C := RX1) (T := TX1) (N := 7) hx hb hts in_X1 hown hK.1 (va_P1 hO) 0 rfl rfl 5 (by decide) (hts _ q42) (fun _ h9 => h9) rfl dX1_repair_69 ?_
            refine rs_iadd hx hb dX1_repair_72 ?_
            refine rs_newa (n := (D + (2 * w8))) hx hb hK hts hS (by omega) (by omega) (by omega) dX1_repair_73 (fun aa H hq_aa hs_aa hU hX hz_aa hS => ?_)
            have ne_x_aa : x ≠ aa := by rw [hq_aa]; exact Nat.ne_of_lt (rs_O.lt hO)
            have ne_wk_aa : wk ≠ aa := by rw [hq_aa]; exact Nat.ne_of_lt (rs_O.lt hWk)
            have ne_wd_aa : wd ≠ aa := by rw [hq_aa]; exact Nat.ne_of_lt (rs_A.lt hWd)
            have ne_sn_aa : sn ≠ aa := by rw [hq_aa]; exact Nat.ne_of_lt (rs_A.lt hSn)
            have ne_gt_aa : gt ≠ aa := by rw [hq_aa]; exact Nat.ne_of_lt (rs_A.lt hGt)
            have hO := hO.k0 hX
            have hWk := hWk.k0 hX
            have hWd := hWd.k0 hX
            have hSn := hSn.k0 hX
            have hGt := hGt.k0 hX
            refine lv_astore_n (lv' := [(2, .ref aa), (0, .ref x), (1, .int (nI v))]) hx hb dX1_repair_75 rfl hl (by decide) rfl (fun ls hl => ?_)
            refine lv_iconst (v := nI 0) hx hb dX1_repair_76 (by decide) ?_
            refine lv_istore_n (lv' := [(3, .int (nI 0)), (2, .ref aa), (0, .ref x), (1, .int (nI v))]) hx hb dX1_repair_77 rfl hl (by decide) rfl (fun ls hl => ?_)
            have loop2 : ∀ (k2 : Nat) (i : Nat) (u : Nat → rsK) (H : Heap) (locs : List Loc) (ls : Array Slot), i + k2 = D + 2 * w8 → (∀ j, j < i → u j = cg j) → rs_O E H x 2 [.ref wk, .ref wd, .ref sn, .ref gt, .int (nI D), .int (nI (2 * w8)), .int (nI 1)] → rs_O E H wk 1 [.ref (E.2.2 0)] → rs_A E H wd 64 cw → rs_A E H sn 64 cs → rs_A E H gt 64 cg → rs_A E H aa (D + 2 * w8) u → va_S (rs_W0 (rs_w4 x wd sn gt) s.heap.size) s.heap H locs → lv_has ls 5 [(0, .ref x), (2, .ref aa), (3, .int (nI i))] → W p l e R s m args below meth c H locs (0 + 1) (0 + (D + 2 * w8)) Q (F0 m 78 ls []) := by
              intro k2
              induction k2 with
              | zero =>
                intro i u H locs ls hk2 hu hO hWk hWd hSn hGt hU hS hl
                refine lv_iload_n hx hb dX1_repair_78 rfl (lv_at hl 2 rfl) ?_
                refine lv_aload_n hx hb dX1_repair_79 rfl (lv_at hl 1 rfl) ?_
                refine rs_alen hx hb hK hU dX1_repair_80 ?_
                refine rs_cge (tgt := 99) hx hb dX1_repair_81 (by decide) (by omega) (by omega) (fun h5 => ?_) (fun h5 => ?_)
                · have hU := rs_A.cg (df := cg) hU (fun j hj => hu j (by omega))
                  refine lv_aload_n hx hb dX1_repair_99 rfl (lv_at hl 0 rfl) ?_
                  refine va_get (ci := 2) (v := .ref wk) (C := RX1) (T := TX1) (N := 7) hx hb hts in_X1 hown hK.1 (va_P1 hO) 0 rfl rfl 0 (by decide) (hts _ q37) (fun _ h9 => h9) rfl dX1_repair_100 ?_
                  refine lv_aload_n hx hb dX1_repair_103 rfl (lv_at hl 1 rfl) ?_
                  refine lv_aload_n hx hb dX1_repair_104 rfl (lv_at hl 0 rfl) ?_
                  refine va_get (ci := 2) (v := .int (nI (2 * w8))) (C := RX1) (T := TX1) (N := 7) hx hb hts in_X1 hown hK.1 (va_P1 hO) 0 rfl rfl 5 (by decide) (hts _ q42) (fun _ h9 => h9) rfl dX1_repair_105 ?_
                  refine lv_iconst (v := nI 0) hx hb dX1_repair_108 (by decide) ?_
                  refine rs_newa (n := 0) hx hb hK hts hS (by omega) (by omega) (by omega) dX1_repair_109 (fun b3 H hq_b3 hs_b3 h3b hX hz_b3 hS => ?_)
                  have ne_x_b3 : x ≠ b3 := by rw [hq_b3]; exact Nat.ne_of_lt (rs_O.lt hO)
                  have ne_wk_b3 : wk ≠ b3 := by rw [hq_b3]; exact Nat.ne_of_lt (rs_O.lt hWk)
                  have ne_wd_b3 : wd ≠ b3 := by rw [hq_b3]; exact Nat.ne_of_lt (rs_A.lt hWd)
                  have ne_sn_b3 : sn ≠ b3 := by rw [hq_b3]; exact Nat.ne_of_lt (rs_A.lt hSn)
                  have ne_gt_b3 : gt ≠ b3 := by rw [hq_b3]; exact Nat.ne_of_lt (rs_A.lt hGt)
                  have ne_aa_b3 : aa ≠ b3 := by rw [hq_b3]; exact Nat.ne_of_lt (rs_A.lt hU)
                  have hO := hO.k0 hX
                  have hWk := hWk.k0 hX
                  have hWd := hWd.k0 hX
                  have hSn := hSn.k0 hX
                  have hGt := hGt.k0 hX
                  have hU := hU.k0 hX
                  refine rs_cVi (As := [.ref aa, .int (nI (2 * w8)), .ref b3]) (rest := []) hx hb hml hown hts hK (hF.kept (rs_S.X hS) hDi.sep) hS hA hl.1 (met_X2_decode E l wk aa b3 (D + 2 * w8) w8 v cg (fun j => cg j - cs j) (fun _ => 0) hw1 hw8 (by omega) (by omega) (fun t ht1 ht2 => by rw [rs_ev_cg (D + 2 * w8) (d := cs) (fun j _ => by grind) (rs_x t)]; exact hcs t ht1 ht2) hv hvw) vf_X2_decode q90 ⟨by omega, by omega⟩ (fun q9 _ h9 => by rw [show q9 = aa from h9]; exact hA _ hs_aa) (fun q9 h9 => by rw [show q9 = aa from h9]; exact rs_A.lt hU) (rs_O.rc hWk hK rfl) ⟨hWk, hU, h3b, ne_wk_aa, ne_aa_b3.symm, fun i hi => by have := hai i hi; omega⟩ rfl rfl (Nat.le_of_ble_eq_true rfl) ⟨by omega, by omega⟩ dX1_repair_111 (fun r H locs hX hp hS => ?_)
                  have hO := hO.kept hX (fun z => ne_x_aa z)
                  have hWk := hWk.kept hX (fun z => ne_wk_aa z)
                  have hWd := hWd.kept hX (fun z => ne_wd_aa z)
                  have hSn := hSn.kept hX (fun z => ne_sn_aa z)
                  have hGt := hGt.kept hX (fun z => ne_gt_aa z)
                  obtain ⟨hr9, hU⟩ := hp
                  subst hr9
                  have hU := rs_A.cg (df := cs) hU (fun j hj => by grind)
                  refine lv_istore_n (lv' := [(3, .int (nI v)), (0, .ref x), (2, .ref aa)]) hx hb dX1_repair_114 rfl hl (by decide) rfl (fun ls hl => ?_)
                  refine lv_goto (tgt := 122) hx hb dX1_repair_115 (by decide) ?_
                  refine lv_iconst (v := nI 0) hx hb dX1_repair_122 (by decide) ?_
                  refine lv_istore (lv' := [(4, .int (nI 0)), (3, .int (nI v)), (0, .ref x), (2, .ref aa)]) hx hb dX1_repair_123 hl (by decide) rfl (fun ls hl => ?_)
                  have loop3 : ∀ (k3 : Nat) (e9 : Nat) (g2 : Nat → rsK) (H : Heap) (locs : List Loc) (ls : Array Slot), e9 + k3 = D + 2 * w8 → (∀ j, j < e9 → g2 j = cs j) → rs_O E H x 2 [.ref wk, .ref wd, .ref sn, .ref gt, .int (nI D), .int (nI (2 * w8)), .int (nI 1)] → rs_O E H wk 1 [.ref (E.2.2 0)] → rs_A E H wd 64 cw → rs_A E H sn 64 cs → rs_A E H gt 64 g2 → rs_A E H aa (D + 2 * w8) cs → va_S (rs_W0 (rs_w4 x wd sn gt) s.heap.size) s.heap H locs → lv_has ls 5 [(0, .ref x), (2, .ref aa), (3, .int (nI v)), (4, .int (nI e9))] → W p l e R s m args below meth c H locs (0 + 1 + 1 + 5100) (0 + (D + 2 * w8) + 0 + 291000) Q (F0 m 125 ls []) := by
                    intro k3
                    induction k3 with
                    | zero =>
                      intro e9 g2 H locs ls hk3 hg2 hO hWk hWd hSn hGt hU hS hl
                      refine lv_iload hx hb dX1_repair_125 (lv_at hl 3 rfl) ?_
                      refine lv_aload_n hx hb dX1_repair_127 rfl (lv_at hl 1 rfl) ?_
                      refine rs_alen hx hb hK hU dX1_repair_128 ?_
                      refine rs_cge (tgt := 149) hx hb dX1_repair_129 (by decide) (by omega) (by omega) (fun h6 => ?_) (fun h6 => ?_)
                      · refine lv_iload_n hx hb dX1_repair_149 rfl (lv_at hl 2 rfl) ?_
                        exact hret _ _ _ _ _ _ _ hS dX1_repair_150 rfl (by omega) (by omega) ⟨rfl, g2, ⟨hO, hWk, hWd, hSn, hGt⟩, fun j hj => hg2 j (by omega)⟩
                      · exact absurd h6 (by omega)
                    | succ k3 ih =>
                      intro e9 g2 H locs ls hk3 hg2 hO hWk hWd hSn hGt hU hS hl
                      refine lv_iload hx hb dX1_repair_125 (lv_at hl 3 rfl) ?_
                      refine lv_aload_n hx hb dX1_repair_127 rfl (lv_at hl 1 rfl) ?_
                      refine rs_alen hx hb hK hU dX1_repair_128 ?_
                      refine rs_cge (tgt := 149) hx hb dX1_repair_129 (by decide) (by omega) (by omega) (fun h6 => ?_) (fun h6 => ?_)
                      · exact absurd h6 (by omega)
                      · refine lv_aload_n hx hb dX1_repair_132 rfl (lv_at hl 0 rfl) ?_
                        refine va_get (ci := 2) (v := .ref gt) (C := RX1) (T := TX1) (N := 7) hx hb hts in_X1 hown hK.1 (va_P1 hO) 0 rfl rfl 3 (by decide) (hts _ q40) (fun _ h9 => h9) rfl dX1_repair_133 ?_
                        refine lv_iload hx hb dX1_repair_136 (lv_at hl 3 rfl) ?_
                        refine lv_aload_n hx hb dX1_repair_138 rfl (lv_at hl 1 rfl) ?_
                        refine lv_iload hx hb dX1_repair_139 (lv_at hl 3 rfl) ?_
                        refine rs_iald hx hb hK hU (by omega) (by omega) dX1_repair_141 ?_
                        refine rs_iast hx hb hK (cs e9) hGt hS (Or.inl (Or.inr (Or.inr (Or.inr rfl)))) (by omega) (by omega) dX1_repair_142 (fun H locs hGt ho hz hS => ?_)
                        have hO := hO.st ho n4
                        have hWk := hWk.st ho n7
                        have hWd := hWd.st ho n9
                        have hSn := hSn.st ho n10
                        have hU := hU.st ho ne_gt_aa.symm
                        refine lv_iinc (v := nI (e9 + 1)) (lv' := [(4, .int (nI (e9 + 1))), (0, .ref x), (2, .ref aa), (3, .int (nI v))]) hx hb dX1_repair_143 hl (k := 3) rfl (nI_1 _) (by decide) rfl (fun ls hl => ?_)
                        refine lv_goto (tgt := 125) hx hb dX1_repair_146 (by decide) ?_
                        exact ih (e9 + 1) (va_up g2 e9 (cs e9)) _ _ ls (by omega) (fun j hj => by
                          unfold va_up
                          by_cases hje : j = e9
                          · rw [if_pos hje, hje]
                          · rw [if_neg hje]; exact hg2 j (by omega)) hO hWk hWd hSn hGt hU hS (lv_sub hl [1, 2, 3, 0] rfl)
                  exact loop3 (D + 2 * w8) 0 cg _ _ ls (by omega) (fun j hj => absurd hj (by omega)) hO hWk hWd hSn hGt hU hS (lv_sub hl [2, 3, 1, 0] rfl)
                · exact absurd h5 (by omega)
              | succ k2 ih =>
                intro i u H locs ls hk2 hu hO hWk hWd hSn hGt hU hS hl
                refine lv_iload_n hx hb dX1_repair_78 rfl (lv_at hl 2 rfl) ?_
                refine lv_aload_n hx hb dX1_repair_79 rfl (lv_at hl 1 rfl) ?_
                refine rs_alen hx hb hK hU dX1_repair_80 ?_
                refine rs_cge (tgt := 99) hx hb dX1_repair_81 (by decide) (by omega) (by omega) (fun h5 => ?_) (fun h5 => ?_)
                · exact absurd h5 (by omega)
                · refine lv_aload_n hx hb dX1_repair_84 rfl (lv_at hl 1 rfl) ?_
                  refine lv_iload_n hx hb dX1_repair_85 rfl (lv_at hl 2 rfl) ?_
                  refine lv_aload_n hx hb dX1_repair_86 rfl (lv_at hl 0 rfl) ?_
                  refine va_get (ci := 2) (v := .ref gt) (C := RX1) (T := TX1) (N := 7) hx hb hts in_X1 hown hK.1 (va_P1 hO) 0 rfl rfl 3 (by decide) (hts _ q40) (fun _ h9 => h9) rfl dX1_repair_87 ?_
                  refine lv_iload_n hx hb dX1_repair_90 rfl (lv_at hl 2 rfl) ?_
                  refine rs_iald hx hb hK hGt (by omega) (by omega) dX1_repair_91 ?_
                  refine rs_iast hx hb hK (cg i) hU hS (hA _ hs_aa) (by omega) (by omega) dX1_repair_92 (fun H locs hU ho hz hS => ?_)
                  have hO := hO.st ho ne_x_aa
                  have hWk := hWk.st ho ne_wk_aa
                  have hWd := hWd.st ho ne_wd_aa
                  have hSn := hSn.st ho ne_sn_aa
                  have hGt := hGt.st ho ne_gt_aa
                  refine lv_iinc (v := nI (i + 1)) (lv' := [(3, .int (nI (i + 1))), (0, .ref x), (2, .ref aa)]) hx hb dX1_repair_93 hl (k := 2) rfl (nI_1 _) (by decide) rfl (fun ls hl => ?_)
                  refine lv_goto (tgt := 78) hx hb dX1_repair_96 (by decide) ?_
                  exact ih (i + 1) (va_up u i (cg i)) _ _ ls (by omega) (fun j hj => by
                    unfold va_up
                    by_cases hji : j = i
                    · rw [if_pos hji, hji]
                    · rw [if_neg hji]; exact hu j (by omega)) hO hWk hWd hSn hGt hU hS (lv_sub hl [1, 2, 0] rfl)
            exact loop2 (D + 2 * w8) 0 (fun _ => 0) _ _ ls (by omega) (fun j hj => absurd hj (by omega)) hO hWk hWd hSn hGt hU hS (lv_sub hl [2, 1, 0] rfl)
          · exact absurd h4 (by omega)
        · exact absurd h3 (by omega)
      | succ k ih =>
        intro i ls hk hl
        refine lv_iload_n hx hb dX1_repair_14 rfl (lv_at hl 2 rfl) ?_
        refine lv_aload_n hx hb dX1_repair_15 rfl (lv_at hl 0 rfl) ?_
        refine va_get (ci := 2) (v := .int (nI D)) (C := RX1) (T := TX1) (N := 7) hx hb hts in_X1 hown hK.1 (va_P1 hO) 0 rfl rfl 4 (by decide) (hts _ q41) (fun _ h9 => h9) rfl dX1_repair_16 ?_
        refine lv_aload_n hx hb dX1_repair_19 rfl (lv_at hl 0 rfl) ?_
        refine va_get (ci := 2) (v := .int (nI (2 * w8))) (C := RX1) (T := TX1) (N := 7) hx hb hts in_X1 hown hK.1 (va_P1 hO) 0 rfl rfl 5 (by decide) (hts _ q42) (fun _ h9 => h9) rfl dX1_repair_20 ?_
        refine rs_iadd hx hb dX1_repair_23 ?_
        refine rs_cge (tgt := 51) hx hb dX1_repair_24 (by decide) (by omega) (by omega) (fun h3 => ?_) (fun h3 => ?_)
        · exact absurd h3 (by omega)
        · refine lv_aload_n hx hb dX1_repair_27 rfl (lv_at hl 0 rfl) ?_
          refine va_get (ci := 2) (v := .ref gt) (C := RX1) (T := TX1) (N := 7) hx hb hts in_X1 hown hK.1 (va_P1 hO) 0 rfl rfl 3 (by decide) (hts _ q40) (fun _ h9 => h9) rfl dX1_repair_28 ?_
          refine lv_iload_n hx hb dX1_repair_31 rfl (lv_at hl 2 rfl) ?_
          refine rs_iald hx hb hK hGt (by omega) (by omega) dX1_repair_32 ?_
          refine lv_aload_n hx hb dX1_repair_33 rfl (lv_at hl 0 rfl) ?_
          refine va_get (ci := 2) (v := .ref sn) (C := RX1) (T := TX1) (N := 7) hx hb hts in_X1 hown hK.1 (va_P1 hO) 0 rfl rfl 2 (by decide) (hts _ q39) (fun _ h9 => h9) rfl dX1_repair_34 ?_
          refine lv_iload_n hx hb dX1_repair_37 rfl (lv_at hl 2 rfl) ?_
          refine rs_iald hx hb hK hSn (by omega) (by omega) dX1_repair_38 ?_
          refine rs_ceq (tgt := 45) hx hb dX1_repair_39 (by decide) (rs_lt _) (rs_lt _) (fun h4 => ?_) (fun h4 => ?_)
          · have h4 : cg i = cs i := Fin.ext h4
            have hel : rs_el (fun j => cg j - cs j) (D + 2 * w8) (i + 1) = rs_el (fun j => cg j - cs j) (D + 2 * w8) i := by
              show (if cg i - cs i = 0 then _ else _) = _
              rw [if_pos (by rw [h4]; grind)]
            refine lv_iinc (v := nI (i + 1)) (lv' := [(2, .int (nI (i + 1))), (0, .ref x), (1, .int (nI ((rs_el (fun j => cg j - cs j) (D + 2 * w8) i).length)))]) hx hb dX1_repair_45 hl (k := 2) rfl (nI_1 _) (by decide) rfl (fun ls hl => ?_)
            refine lv_goto (tgt := 14) hx hb dX1_repair_48 (by decide) ?_
            exact ih (i + 1) ls (by omega) (by rw [hel]; exact lv_sub hl [1, 2, 0] rfl)
          · have h4 : cg i ≠ cs i := fun z => h4 (by rw [z])
            have hel : (rs_el (fun j => cg j - cs j) (D + 2 * w8) (i + 1)).length = (rs_el (fun j => cg j - cs j) (D + 2 * w8) i).length + 1 := by
              show (if cg i - cs i = 0 then _ else _ : List (rsK × rsK)).length = _
              rw [if_neg (fun z => h4 (rs_sub_eq z))]
              rfl
            refine lv_iinc (v := nI (((rs_el (fun j => cg j - cs j) (D + 2 * w8) i).length) + 1)) (lv' := [(1, .int (nI (((rs_el (fun j => cg j - cs j) (D + 2 * w8) i).length) + 1))), (0, .ref x), (2, .int (nI i))]) hx hb dX1_repair_42 hl (k := 1) rfl (nI_1 _) (by decide) rfl (fun ls hl => ?_)
            refine lv_iinc (v := nI (i + 1)) (lv' := [(2, .int (nI (i + 1))), (1, .int (nI (((rs_el (fun j => cg j - cs j) (D + 2 * w8) i).length) + 1))), (0, .ref x)]) hx hb dX1_repair_45 hl (k := 2) rfl (nI_1 _) (by decide) rfl (fun ls hl => ?_)
            refine lv_goto (tgt := 14) hx hb dX1_repair_48 (by decide) ?_
            exact ih (i + 1) ls (by omega) (by rw [hel]; exact lv_sub hl [2, 1, 0] rfl)
    exact loop (D + 2 * w8) 0 ls (by omega) (lv_sub hl [2, 1, 0] rfl)
  · exact absurd h1 (by decide)
end
section
/-! the law: cell, and the walk of law over a script -/
def rs_cl (xs : Nat → Int32) (L k : Nat) : Int32 := if k < L then xs k else 0
set_option maxHeartbeats 4000000 in
set_option maxRecDepth 100000 in
theorem met_X0_cell (l : Launch) (b L k sz : Nat) (xs : Nat → Int32) (hL : L ≤ 34) (hk : k < 2 ^ 31) : Met l yX0_cell (ws_ yX0_cell cX0_cell 2 (some .int)) ⟨0, 0, 0, 0⟩ (va_Pc [.ref b, .int (nI k)] (fun U => U.heap.size = sz ∧ va_X b L xs U U.heap)) (va_Qi (fun (r u : Int32) => r = u) (fun u _ => u = rs_cl xs L k) (rs_W0 rs_no sz)) 0 0 (rs_W0 rs_no sz) := by
  refine Met.ofW (cc := cX0_cell) (maxL := 2) (ret := some .int) (by decide) rfl ?_
  intro p e s m args below meth c s₁ B hml hv
  obtain ⟨rfl, hsz, hXs⟩ := hv
  have hx := B.exec
  have hb := B.bytes
  have hr := B.returns
  have hlocks := B.notSynchronized
  subst hsz
  have hS : va_S (rs_W0 rs_no s.heap.size) s.heap s.heap [] := va_S.rf
  have hbl : b < s.heap.size := by
    obtain ⟨scr, h1, -⟩ := hXs
    exact (Array.getElem?_eq_some_iff.mp h1).1
  have hbA : ¬ rs_W0 rs_no s.heap.size b := fun z => by
    rcases z with z | z
    · exact z
    · omega
  have hl := lv_entry ([.ref b, .int (nI k)]) (n := 2) (Nat.le_of_ble_eq_true rfl)
  rw [lg_entry_eq]
  generalize (lg_sl ([.ref b, .int (nI k)]) ++ List.replicate (2 - (lg_sl ([.ref b, .int (nI k)])).length) Slot.unset).toArray = ls at hl ⊢
  have hl : lv_has ls 2 [(0, .ref b), (1, .int (nI k))] := hl
  refine lv_iload_n hx hb dX0_cell_0 rfl (lv_at hl 1 rfl) ?_
  refine lv_aload_n hx hb dX0_cell_1 rfl (lv_at hl 0 rfl) ?_
  refine va_slen hx hb hXs hbl hbA hS dX0_cell_2 ?_
  refine rs_cge (a := k) (b := L) (tgt := 12) hx hb dX0_cell_3 (by decide) hk (by omega) (fun h1 => ?_) (fun h1 => ?_)
  · refine lv_iconst (v := 0) hx hb dX0_cell_12 (by decide) ?_
    exact W.iret (v := 0) hx hb hr (fun t ht _ => ⟨⟨0, 0, rfl, rfl, by show (0 : Int32) = rs_cl xs L k; unfold rs_cl; rw [if_neg (by omega)]⟩, hS.F ht⟩) hS.2.2 dX0_cell_13
  · refine lv_aload_n hx hb dX0_cell_6 rfl (lv_at hl 0 rfl) ?_
    refine lv_iload_n hx hb dX0_cell_7 rfl (lv_at hl 1 rfl) ?_
    refine va_sld hx hb hXs hbl hbA hS (vp_in_nI h1 (by omega)) dX0_cell_8 ?_
    rw [nI_clamp hk]
    refine lv_goto (tgt := 13) hx hb dX0_cell_9 (by decide) ?_
    exact W.iret (v := xs k) hx hb hr (fun t ht _ => ⟨⟨xs k, xs k, rfl, rfl, by show xs k = rs_cl xs L k; unfold rs_cl; rw [if_pos h1]⟩, hS.F ht⟩) hS.2.2 dX0_cell_13
section RSL
variable {p : Program} {l : Launch} {e : Env} {R : Room} {s : State} {m : MethodId} {args : Array Value} {below : List Frame} {meth : Method} {c : Code} {H : Heap} {locs : List Loc} {cells slots : Nat} {Q : State → Prop} {cc : ByteArray} {pc : Nat} {ls : Array Slot} {rest : List Value}
theorem rs_cell_call {b L k nL : Nat} {xs : Nat → Int32} (hx : p.tables.exec = Jvm.exec) (hb : c.code = cc) (hml : c.maxLocals = nL) (hown : s.vm.findClass RX0 = some m.cls) (hts : ∀ w ∈ lw_all, w.before args s = true) (hS : va_S (rs_W0 rs_no s.heap.size) s.heap H locs) (hsz : ls.size = nL) (hXs : va_X b L xs s s.heap) (hbl : b < s.heap.size) (hL : L ≤ 34) (hk : k < 2 ^ 31) (hR : 0 + 1 ≤ R.frames ∧ 8 + (2 + 11) + 0 ≤ R.locals) (hro : (rest.map fun v => v.category).sum ≤ 8) (hf : cells + 0 ≤ R.cells ∧ slots + 0 ≤ R.slots) (hdg : decode cc pc = .ok (.invokestatic 10, 3))
    (kk : ∀ (H1 : Heap) (locs1 : List Loc), rs_X rs_no H H1 → va_S (rs_W0 rs_no s.heap.size) s.heap H1 locs1 → W p l e R s m args below meth c H1 locs1 cells slots Q (F0 m (pc + 3) ls (.int (rs_cl xs L k) :: rest))) : W p l e R s m args below meth c H locs cells slots Q (F0 m pc ls (.int (nI k) :: .ref b :: rest)) := by
  have hXH : va_X b L xs s H := va_X.kept hXs ((rs_S.X hS).2 b hbl (fun z => z))
  have hAll : ∀ q, rs_W0 rs_no H.size q → rs_W0 rs_no s.heap.size q := fun q h => by
    rcases h with h | h
    · exact h.elim
    · exact Or.inr (Nat.le_trans hS.1 h)
  refine va_calli (va_runS (As := [.ref b, .int (nI k)]) (rest := rest) ⟨hx, hb, hml, hown, hts⟩ (met_X0_cell l b L k H.size xs hL hk) (va_cwS 2 hts (lw_S q314 q315 q4 q316) rfl rfl rfl ⟨by decide, by decide, by decide +kernel⟩ hR) ⟨fun a U g mk q => by obtain ⟨q0, q1, qX⟩ := q; exact ⟨q0, q1, va_X.moved (u := U) (U := U.calling g mk a) (Vm.Alike.refl U.vm) qX⟩, fun U hU hW => ⟨rfl, by rw [hU], by rw [hU]; exact va_X.moved hW.alike hXH⟩⟩ rfl rfl hsz rfl (lv_room hro) hdg hf) hS (fun q _ h => hAll q h) hAll (fun r u t H1 locs1 ht hvm hw1 hB hz1 hk1 hS1 => ?_)
  have hw1 : r = u := hw1
  have hB : u = rs_cl xs L k := hB
  subst hw1
  rw [hB]
  subst ht
  exact kk t.heap locs1 (rs_xof hz1 hk1) hS1
end RSL
theorem rs_Wd.lt {E : rsE} {H : Heap} {x wk wd sn gt D X mk : Nat} {cw cs cg : Nat → rsK} (h : rs_Wd E H x wk wd sn gt D X mk cw cs cg) : ∀ q, rs_w4 x wd sn gt q → q < H.size := by
  intro q hq
  rcases hq with e | e | e | e
  · rw [e]; exact rs_O.lt h.1
  · rw [e]; exact h.2.2.1.lt
  · rw [e]; exact h.2.2.2.1.lt
  · rw [e]; exact h.2.2.2.2.lt
theorem rs_Wd.k0 {E : rsE} {H H1 : Heap} {x wk wd sn gt D X mk : Nat} {cw cs cg : Nat → rsK} (h : rs_Wd E H x wk wd sn gt D X mk cw cs cg) (hX : rs_X rs_no H H1) : rs_Wd E H1 x wk wd sn gt D X mk cw cs cg :=
  ⟨h.1.k0 hX, h.2.1.k0 hX, h.2.2.1.k0 hX, h.2.2.2.1.k0 hX, h.2.2.2.2.k0 hX⟩
theorem rs_Wd.ne {E : rsE} {H : Heap} {x wk wd sn gt D X mk st : Nat} {cw cs cg : Nat → rsK} (h : rs_Wd E H x wk wd sn gt D X mk cw cs cg) (hs : st = H.size) : x ≠ st ∧ wk ≠ st ∧ wd ≠ st ∧ sn ≠ st ∧ gt ≠ st := by
  subst hs
  exact ⟨Nat.ne_of_lt (rs_O.lt h.1), Nat.ne_of_lt (rs_O.lt h.2.1), Nat.ne_of_lt h.2.2.1.lt, Nat.ne_of_lt h.2.2.2.1.lt, Nat.ne_of_lt h.2.2.2.2.lt⟩
theorem rs_Wd.st {E : rsE} {H H1 : Heap} {x wk wd sn gt D X mk st : Nat} {cw cs cg : Nat → rsK} (h : rs_Wd E H x wk wd sn gt D X mk cw cs cg) (o : ∀ q : Nat, q ≠ st → H1[q]? = H[q]?) (hn : x ≠ st ∧ wk ≠ st ∧ wd ≠ st ∧ sn ≠ st ∧ gt ≠ st) : rs_Wd E H1 x wk wd sn gt D X mk cw cs cg :=
  ⟨h.1.st o hn.1, h.2.1.st o hn.2.1, h.2.2.1.st o hn.2.2.1, h.2.2.2.1.st o hn.2.2.2.1, h.2.2.2.2.st o hn.2.2.2.2⟩
theorem rs_ne4 {x wk wd sn gt st : Nat} (hn : x ≠ st ∧ wk ≠ st ∧ wd ≠ st ∧ sn ≠ st ∧ gt ≠ st) : ¬ rs_w4 x wd sn gt st := by
  intro h
  rcases h with e | e | e | e
  · exact hn.1 e.symm
  · exact hn.2.2.1 e.symm
  · exact hn.2.2.2.1 e.symm
  · exact hn.2.2.2.2 e.symm
/-- a harmed place counts once -/
theorem rs_cnt_up (g sc : Nat → rsK) (N pos : Nat) (v : rsK) : ∀ n, (rs_el (fun j => va_up g pos v j - sc j) N n).length ≤ (rs_el (fun j => g j - sc j) N n).length + (if pos < n then 1 else 0)
  | 0 => Nat.zero_le _
  | n + 1 => by
    have ih := rs_cnt_up g sc N pos v n
    unfold rs_el
    by_cases hp : pos = n
    · rw [if_neg (by omega)] at ih
      rw [if_pos (show pos < n + 1 by omega)]
      split <;> split <;> (try simp only [List.length_cons]) <;> omega
    · have e1 : va_up g pos v n - sc n = g n - sc n := by
        unfold va_up
        rw [if_neg (fun z => hp z.symm)]
      rw [e1]
      by_cases hlt : pos < n
      · rw [if_pos hlt] at ih
        rw [if_pos (show pos < n + 1 by omega)]
        split <;> (try simp only [List.length_cons]) <;> omega
      · rw [if_neg hlt] at ih
        rw [if_neg (show ¬ pos < n + 1 by omega)]
        split <;> (try simp only [List.length_cons]) <;> omega
theorem rs_el_le (er : Nat → rsK) (N : Nat) : ∀ n, (rs_el er N n).length ≤ n
  | 0 => Nat.le_refl 0
  | n + 1 => by
    have ih := rs_el_le er N n
    unfold rs_el
    split <;> (try simp only [List.length_cons]) <;> omega
theorem rs_el_00 (er : Nat → rsK) (N : Nat) (h : ∀ j, j < N → er j = 0) : ∀ n, n ≤ N → (rs_el er N n).length = 0
  | 0, _ => rfl
  | n + 1, hn => by
    unfold rs_el
    rw [if_pos (h n (by omega))]
    exact rs_el_00 er N h n (by omega)
set_option maxHeartbeats 8000000 in
set_option maxRecDepth 100000 in
theorem law_walk {p : Program} {e : Env} {R : Room} {s : State} {m : MethodId} {args : Array Value} {below : List Frame} {meth : Method} {c : Code} {Q : State → Prop} (E : rsE) (l : Launch) (b L : Nat) (xs : Nat → Int32) (hL : L ≤ 34) (hx : p.tables.exec = Jvm.exec) (hb : c.code = cL_law) (hml : c.maxLocals = 8) (hown : s.vm.findClass RX0 = some m.cls) (hts : ∀ w ∈ lw_all, w.before args s = true) (hK : rs_KK E s) (hF : rs_F E s s.heap) (hXs : va_X b L xs s s.heap) (hbl : b < s.heap.size) (hai : ∀ i, i < 8 → E.2.2 i < s.heap.size) (hRf : R.frames = 14) (hRc : R.cells = 710956) (hRs : R.slots = 6968972) (hRl : R.locals = 572)
    (hret : ∀ (H : Heap) (locs : List Loc) (cells slots pc : Nat) (ls : Array Slot), va_S (rs_W0 rs_no s.heap.size) s.heap H locs → decode cL_law pc = .ok (.ireturn, 1) → cells ≤ 710956 → slots ≤ 6968972 → W p l e R s m args below meth c H locs cells slots Q (F0 m pc ls [.int (nI 1)]))
    (ls : Array Slot) (hl : lv_has ls 8 [(0, .ref b)]) : W p l e R s m args below meth c s.heap [] 0 0 Q (F0 m 0 ls []) := by
  have hA : ∀ q, s.heap.size ≤ q → rs_W0 rs_no s.heap.size q := fun q h => Or.inr h
  have hS : va_S (rs_W0 rs_no s.heap.size) s.heap s.heap [] := va_S.rf
  have hbA : ¬ rs_W0 rs_no s.heap.size b := fun z => by
    rcases z with z | z
    · exact z
    · omega
  refine rs_newo (ci := 2) (fs := [.null, .null, .null, .null, .int (nI 0), .int (nI 0), .int (nI 0)]) (C := RX1) (T := TX1) (N := 7) hx hb hown hts in_X1 tyX1 tyX1_ok hK hS q17 q18 q5 rfl (fun j hj => by rcases (show j = 0 ∨ j = 1 ∨ j = 2 ∨ j = 3 ∨ j = 4 ∨ j = 5 ∨ j = 6 by omega) with rfl | rfl | rfl | rfl | rfl | rfl | rfl <;> rfl) (by omega) (by omega) dL_law_0 (fun x H hq_x hs_x hO hX hz_x hS => ?_)
  refine lv_dup hx hb dL_law_3 rfl ?_
  refine rs_cI (n := 0) (As := []) (rest := [.ref x]) hx hb hml hown hts hK (hF.k0 (rs_S.X hS)) hS hA hl.1 (met_X1_init E l x s.heap.size) ⟨by decide, by decide, by decide +kernel⟩ rfl q21 q5 q20 q19 ⟨by omega, by omega⟩ (fun q9 _ h9 => by rw [show q9 = x from h9]; exact hA _ hs_x) (fun q9 h9 => by rw [show q9 = x from h9]; exact rs_O.lt hO) ⟨hO, hS.1, fun i hi => Nat.lt_of_lt_of_le (hai i hi) hS.1, fun i hi => by have := hai i hi; omega⟩ rfl rfl (Nat.le_of_ble_eq_true rfl) ⟨by omega, by omega⟩ dL_law_4 (fun H locs hX hp hS => ?_)
  obtain ⟨wk, wd, sn, gt, hW, hDi, hf1, hf2, hf3, hf4, -⟩ := hp
  have hw4 : ∀ q, rs_w4 x wd sn gt q → s.heap.size ≤ q := fun q hq => by
    rcases hq with e | e | e | e
    · rw [e]; exact hs_x
    · rw [e]; exact hf2
    · rw [e]; exact hf3
    · rw [e]; exact hf4
  refine lv_astore_n (lv' := [(1, .ref x), (0, .ref b)]) hx hb dL_law_7 rfl hl (by decide) rfl (fun ls hl => ?_)
  refine lv_aload_n hx hb dL_law_8 rfl (lv_at hl 0 rfl) ?_
  refine lv_aload_n hx hb dL_law_9 rfl (lv_at hl 1 rfl) ?_
  refine lv_iconst (v := nI 0) hx hb dL_law_10 (by decide) ?_
  refine rs_cell_call hx hb hml hown hts hS hl.1 hXs hbl hL (k := 0) (by omega) ⟨by omega, by omega⟩ (Nat.le_of_ble_eq_true rfl) ⟨by omega, by omega⟩ dL_law_11 (fun H locs hX hS => ?_)
  have hW := hW.k0 hX
  refine rs_cVv (As := [.int (rs_cl xs L 0)]) (rest := []) hx hb hml hown hts hK (hF.k0 (rs_S.X hS)) hS hA hl.1 (met_X1_clear E l x wk wd sn gt 0 4 0 (fun _ => 0) (fun _ => 0) (fun _ => 0) (rs_cl xs L 0)) vf_X1_clear q65 ⟨by omega, by omega⟩ (fun q9 _ h9 => Or.inr (hw4 q9 h9)) (fun q9 h9 => rs_Wd.lt hW q9 h9) (rs_O.rc hW.1 hK rfl) ⟨hW, hDi⟩ rfl rfl (Nat.le_of_ble_eq_true rfl) ⟨by omega, by omega⟩ dL_law_14 (fun H locs hX hp hS => ?_)
  have hW := hp
  obtain ⟨w8, hw1, hw8, e8⟩ : ∃ w8, 1 ≤ w8 ∧ w8 ≤ 8 ∧ 2 + 2 * ((rs_cl xs L 0).toBitVec.toNat % 8) = 2 * w8 := ⟨1 + (rs_cl xs L 0).toBitVec.toNat % 8, by omega, by omega, by omega⟩
  rw [e8] at hW
  refine lv_iconst (v := nI 1) hx hb dL_law_17 (by decide) ?_
  refine lv_aload_n hx hb dL_law_18 rfl (lv_at hl 1 rfl) ?_
  refine lv_iconst (v := nI 0) hx hb dL_law_19 (by decide) ?_
  refine rs_cell_call hx hb hml hown hts hS hl.1 hXs hbl hL (k := 0) (by omega) ⟨by omega, by omega⟩ (Nat.le_of_ble_eq_true rfl) ⟨by omega, by omega⟩ dL_law_20 (fun H locs hX hS => ?_)
  have hW := hW.k0 hX
  refine lv_iconst (v := nI 3) hx hb dL_law_23 (by decide) ?_
  refine lv_ishr hx hb dL_law_24 ?_
  refine lv_bipush (v := nI 15) hx hb dL_law_25 (by decide) ?_
  obtain ⟨t1, ht1, et1⟩ := pk_andE ((rs_cl xs L 0) >>> (nI 3 &&& 31)) (m := nI 15) 4 (by decide)
  refine lv_iand hx hb dL_law_27 ?_
  rw [et1]
  refine rs_iadd hx hb dL_law_28 ?_
  obtain ⟨nn, hn1, hn2, enn⟩ : ∃ nn, 1 ≤ nn ∧ nn ≤ 16 ∧ 1 + t1 = nn := ⟨1 + t1, by omega, by omega, rfl⟩
  refine rs_top (b := nn) enn ?_
  refine lv_istore_n (lv' := [(2, .int (nI nn)), (1, .ref x), (0, .ref b)]) hx hb dL_law_29 rfl hl (by decide) rfl (fun ls hl => ?_)
  refine lv_iconst (v := nI 2) hx hb dL_law_30 (by decide) ?_
  refine lv_iconst (v := nI 2) hx hb dL_law_31 (by decide) ?_
  refine lv_aload_n hx hb dL_law_32 rfl (lv_at hl 2 rfl) ?_
  refine lv_iconst (v := nI 0) hx hb dL_law_33 (by decide) ?_
  refine rs_cell_call hx hb hml hown hts hS hl.1 hXs hbl hL (k := 0) (by omega) ⟨by omega, by omega⟩ (Nat.le_of_ble_eq_true rfl) ⟨by omega, by omega⟩ dL_law_34 (fun H locs hX hS => ?_)
  have hW := hW.k0 hX
  refine lv_bipush (v := nI 7) hx hb dL_law_37 (by decide) ?_
  refine lv_iand hx hb dL_law_39 ?_
  rw [pk_and (rs_cl xs L 0) 3 (by decide)]
  refine rs_imul hx hb dL_law_40 ?_
  refine rs_iadd hx hb dL_law_41 ?_
  refine rs_top (b := (2 * w8)) e8 ?_
  refine lv_istore_n (lv' := [(3, .int (nI (2 * w8))), (2, .int (nI nn)), (1, .ref x), (0, .ref b)]) hx hb dL_law_42 rfl hl (by decide) rfl (fun ls hl => ?_)
  refine lv_iconst (v := nI 0) hx hb dL_law_43 (by decide) ?_
  refine lv_istore (lv' := [(4, .int (nI 0)), (3, .int (nI (2 * w8))), (2, .int (nI nn)), (1, .ref x), (0, .ref b)]) hx hb dL_law_44 hl (by decide) rfl (fun ls hl => ?_)
  have loopP : ∀ (k : Nat) (i : Nat) (cw : Nat → rsK) (H : Heap) (locs : List Loc) (ls : Array Slot), i + k = nn → rs_Wd E H x wk wd sn gt i (2 * w8) 0 cw (fun _ => 0) (fun _ => 0) → va_S (rs_W0 rs_no s.heap.size) s.heap H locs → lv_has ls 8 [(0, .ref b), (1, .ref x), (2, .int (nI nn)), (3, .int (nI (2 * w8))), (4, .int (nI i))] → W p l e R s m args below meth c H locs (0 + 1 + 4) (0 + 7 + 194) Q (F0 m 46 ls []) := by
    intro k
    induction k with
    | zero =>
      intro i cw H locs ls hk hW hS hl
      refine lv_iload hx hb dL_law_46 (lv_at hl 4 rfl) ?_
      refine lv_iload_n hx hb dL_law_48 rfl (lv_at hl 2 rfl) ?_
      refine rs_cge (tgt := 75) hx hb dL_law_49 (by decide) (by omega) (by omega) (fun h3 => ?_) (fun h3 => ?_)
      · have hi0 : i = nn := by omega
        subst hi0
        refine lv_aload_n hx hb dL_law_75 rfl (lv_at hl 1 rfl) ?_
        refine rs_cVi (As := []) (rest := []) hx hb hml hown hts hK (hF.k0 (rs_S.X hS)) hS hA hl.1 (met_X1_encode E l x wk wd sn gt i (2 * w8) 0 cw (fun _ => 0) (fun _ => 0) hn1 (by omega) (by omega) (by omega)) vf_X1_encode q73 ⟨by omega, by omega⟩ (fun q9 _ h9 => Or.inr (hw4 q9 h9)) (fun q9 h9 => rs_Wd.lt hW q9 h9) (rs_O.rc hW.1 hK rfl) ⟨hW, hDi⟩ rfl rfl (Nat.le_of_ble_eq_true rfl) ⟨by omega, by omega⟩ dL_law_76 (fun r H locs hX hp hS => ?_)
        obtain ⟨hr9, sc, gc, hW, hgs, hcs⟩ := hp
        subst hr9
        refine rs_ifeq (tgt := 92) hx hb dL_law_79 (by decide) (by decide) (fun h3b => ?_) (fun h3b => ?_)
        · exact absurd h3b (by decide)
        · refine lv_aload_n hx hb dL_law_82 rfl (lv_at hl 1 rfl) ?_
          refine rs_cVi (As := []) (rest := []) hx hb hml hown hts hK (hF.k0 (rs_S.X hS)) hS hA hl.1 (met_X1_size E l x wk wd sn gt i (2 * w8) cw sc gc) vf_X1_size q69 ⟨by omega, by omega⟩ (fun q9 _ h9 => Or.inr (hw4 q9 h9)) (fun q9 h9 => rs_Wd.lt hW q9 h9) (rs_O.rc hW.1 hK rfl) ⟨hW, hDi⟩ rfl rfl (Nat.le_of_ble_eq_true rfl) ⟨by omega, by omega⟩ dL_law_83 (fun r H locs hX hp hS => ?_)
          obtain ⟨hr9, hW⟩ := hp
          subst hr9
          refine lv_iload_n hx hb dL_law_86 rfl (lv_at hl 2 rfl) ?_
          refine lv_iload_n hx hb dL_law_87 rfl (lv_at hl 3 rfl) ?_
          refine rs_iadd hx hb dL_law_88 ?_
          refine rs_ceq (tgt := 94) hx hb dL_law_89 (by decide) (by omega) (by omega) (fun h4 => ?_) (fun h4 => ?_)
          · refine lv_iload_n hx hb dL_law_94 rfl (lv_at hl 2 rfl) ?_
            refine lv_iload_n hx hb dL_law_95 rfl (lv_at hl 3 rfl) ?_
            refine rs_iadd hx hb dL_law_96 ?_
            refine rs_newa (n := i + 2 * w8) hx hb hK hts hS (by omega) (by omega) (by omega) dL_law_97 (fun st H hq_st hs_st hT hX hz_st hS => ?_)
            have hstn := rs_Wd.ne hW hq_st
            have hst4 := rs_ne4 hstn
            have hW := hW.k0 hX
            refine lv_astore (lv' := [(4, .ref st), (0, .ref b), (1, .ref x), (2, .int (nI i)), (3, .int (nI (2 * w8)))]) hx hb dL_law_99 hl (by decide) rfl (fun ls hl => ?_)
            refine lv_iconst (v := nI 0) hx hb dL_law_101 (by decide) ?_
            refine lv_istore (lv' := [(5, .int (nI 0)), (4, .ref st), (0, .ref b), (1, .ref x), (2, .int (nI i)), (3, .int (nI (2 * w8)))]) hx hb dL_law_102 hl (by decide) rfl (fun ls hl => ?_)
            have hl : lv_has ls 8 [(0, .ref b), (1, .ref x), (2, .int (nI i)), (3, .int (nI (2 * w8))), (4, .ref st), (5, .int (nI 0))] := lv_sub hl [2, 3, 4, 5, 1, 0] rfl
            have loopG : ∀ (k : Nat) (j9 : Nat) (u : Nat → rsK) (H : Heap) (locs : List Loc) (ls : Array Slot), j9 + k = i + 2 * w8 → (∀ a, a < j9 → u a = sc a) → rs_Wd E H x wk wd sn gt i (2 * w8) 1 cw sc gc → rs_A E H st (i + 2 * w8) u → va_S (rs_W0 rs_no s.heap.size) s.heap H locs → lv_has ls 8 [(0, .ref b), (1, .ref x), (3, .int (nI (2 * w8))), (4, .ref st), (5, .int (nI j9))] → W p l e R s m args below meth c H locs (0 + 1 + 4 + 2 + 1) (0 + 7 + 194 + 50 + (i + 2 * w8)) Q (F0 m 104 ls []) := by
              intro k
              induction k with
              | zero =>
                intro j9 u H locs ls hk hu hW hT hS hl
                refine lv_iload hx hb dL_law_104 (lv_at hl 4 rfl) ?_
                refine lv_aload hx hb dL_law_106 (lv_at hl 3 rfl) ?_
                refine rs_alen hx hb hK hT dL_law_108 ?_
                refine rs_cge (tgt := 129) hx hb dL_law_109 (by decide) (by omega) (by omega) (fun h5 => ?_) (fun h5 => ?_)
                · have hT := rs_A.cg (df := sc) hT (fun a ha => hu a (by omega))
                  refine lv_iconst (v := nI 0) hx hb dL_law_129 (by decide) ?_
                  refine lv_istore (lv' := [(5, .int (nI 0)), (0, .ref b), (1, .ref x), (3, .int (nI (2 * w8))), (4, .ref st)]) hx hb dL_law_130 hl (by decide) rfl (fun ls hl => ?_)
                  have fin : ∀ (j9 : Nat) (g : Nat → rsK) (H : Heap) (locs : List Loc) (ls : Array Slot), (rs_el (fun j => g j - sc j) (i + 2 * w8) (i + 2 * w8)).length ≤ w8 → rs_Wd E H x wk wd sn gt i (2 * w8) 1 cw sc g → rs_A E H st (i + 2 * w8) sc → va_S (rs_W0 rs_no s.heap.size) s.heap H locs → lv_has ls 8 [(0, .ref b), (1, .ref x), (3, .int (nI (2 * w8))), (4, .ref st), (5, .int (nI j9))] → W p l e R s m args below meth c H locs (0 + 1 + 4 + 2 + 1) (0 + 7 + 194 + 50 + (i + 2 * w8)) Q (F0 m 181 ls []) := by
                    intro j9 g H locs ls hcnt hW hT hS hl
                    have hlen := rs_el_le (fun j => g j - sc j) (i + 2 * w8)
                    refine lv_iconst (v := nI 0) hx hb dL_law_181 (by decide) ?_
                    refine lv_istore (lv' := [(5, .int (nI 0)), (0, .ref b), (1, .ref x), (3, .int (nI (2 * w8))), (4, .ref st)]) hx hb dL_law_182 hl (by decide) rfl (fun ls hl => ?_)
                    refine lv_iconst (v := nI 0) hx hb dL_law_184 (by decide) ?_
                    refine lv_istore (lv' := [(6, .int (nI 0)), (5, .int (nI 0)), (0, .ref b), (1, .ref x), (3, .int (nI (2 * w8))), (4, .ref st)]) hx hb dL_law_185 hl (by decide) rfl (fun ls hl => ?_)
                    have loopC : ∀ (k3 : Nat) (q9 : Nat) (H : Heap) (locs : List Loc) (ls : Array Slot), q9 + k3 = i + 2 * w8 → rs_Wd E H x wk wd sn gt i (2 * w8) 1 cw sc g → rs_A E H st (i + 2 * w8) sc → va_S (rs_W0 rs_no s.heap.size) s.heap H locs → lv_has ls 8 [(0, .ref b), (1, .ref x), (3, .int (nI (2 * w8))), (4, .ref st), (5, .int (nI ((rs_el (fun j => g j - sc j) (i + 2 * w8) q9).length))), (6, .int (nI q9))] → W p l e R s m args below meth c H locs (0 + 1 + 4 + 2 + 1) (0 + 7 + 194 + 50 + (i + 2 * w8)) Q (F0 m 187 ls []) := by
                      intro k3
                      induction k3 with
                      | zero =>
                        intro q9 H locs ls hk3 hW hT hS hl
                        refine lv_iload hx hb dL_law_187 (lv_at hl 5 rfl) ?_
                        refine lv_aload hx hb dL_law_189 (lv_at hl 3 rfl) ?_
                        refine rs_alen hx hb hK hT dL_law_191 ?_
                        refine rs_cge (tgt := 218) hx hb dL_law_192 (by decide) (by omega) (by omega) (fun h8 => ?_) (fun h8 => ?_)
                        · have hq0 : q9 = i + 2 * w8 := by omega
                          subst hq0
                          obtain ⟨v, hv⟩ : ∃ v, (rs_el (fun j => g j - sc j) (i + 2 * w8) (i + 2 * w8)).length = v := ⟨_, rfl⟩
                          rw [hv] at hl hcnt
                          have hvl : v ≤ i + 2 * w8 := by rw [← hv]; exact hlen _
                          refine lv_aload_n hx hb dL_law_218 rfl (lv_at hl 1 rfl) ?_
                          refine rs_cVW (As := []) (rest := []) (n := 0) hx hb hml hown hts hK (hF.k0 (rs_S.X hS)) hS hA hl.1 (met_X1_repair E l x wk wd sn gt i w8 v cw sc g hn1 (by omega) hw1 hw8 hcs hv hcnt) ⟨rfl, by decide, by decide, by decide +kernel⟩ q86 q87 q5 q88 q85 ⟨by omega, by omega⟩ (fun q9 _ h9 => Or.inr (hw4 q9 h9)) (fun q9 h9 => rs_Wd.lt hW q9 h9) (rs_O.rc hW.1 hK rfl) ⟨hW, hDi, fun i hi => Nat.lt_of_lt_of_le (hai i hi) hS.1⟩ rfl rfl (Nat.le_of_ble_eq_true rfl) ⟨by omega, by omega⟩ dL_law_219 (fun r H locs hX hp hS => ?_)
                          obtain ⟨hr9, g2, hW, hg2⟩ := hp
                          subst hr9
                          have hT := hT.kept hX hst4
                          refine lv_istore (lv' := [(6, .int (nI v)), (0, .ref b), (1, .ref x), (3, .int (nI (2 * w8))), (4, .ref st), (5, .int (nI v))]) hx hb dL_law_222 hl (by decide) rfl (fun ls hl => ?_)
                          refine lv_iload hx hb dL_law_224 (lv_at hl 0 rfl) ?_
                          refine lv_if_lt (tgt := 236) hx hb dL_law_226 (by decide) (fun h => absurd h (nI_pos (by omega))) (fun _ => ?_)
                          refine lv_iload hx hb dL_law_229 (lv_at hl 0 rfl) ?_
                          refine lv_iload hx hb dL_law_231 (lv_at hl 5 rfl) ?_
                          refine rs_cle (tgt := 238) hx hb dL_law_233 (by decide) (by omega) (by omega) (fun h10 => ?_) (fun h10 => ?_)
                          · refine lv_iconst (v := nI 0) hx hb dL_law_238 (by decide) ?_
                            refine lv_istore (lv' := [(7, .int (nI 0)), (6, .int (nI v)), (0, .ref b), (1, .ref x), (3, .int (nI (2 * w8))), (4, .ref st), (5, .int (nI v))]) hx hb dL_law_239 hl (by decide) rfl (fun ls hl => ?_)
                            have loopZ : ∀ (k4 : Nat) (z9 : Nat) (H : Heap) (locs : List Loc) (ls : Array Slot), z9 + k4 = i + 2 * w8 → rs_Wd E H x wk wd sn gt i (2 * w8) 1 cw sc g2 → rs_A E H st (i + 2 * w8) sc → va_S (rs_W0 rs_no s.heap.size) s.heap H locs → lv_has ls 8 [(0, .ref b), (1, .ref x), (4, .ref st), (7, .int (nI z9))] → W p l e R s m args below meth c H locs (0 + 1 + 4 + 2 + 1 + 5102) (0 + 7 + 194 + 50 + (i + 2 * w8) + 291040) Q (F0 m 241 ls []) := by
                              intro k4
                              induction k4 with
                              | zero =>
                                intro z9 H locs ls hk4 hW hT hS hl
                                refine lv_iload hx hb dL_law_241 (lv_at hl 3 rfl) ?_
                                refine lv_aload hx hb dL_law_243 (lv_at hl 2 rfl) ?_
                                refine rs_alen hx hb hK hT dL_law_245 ?_
                                refine rs_cge (tgt := 271) hx hb dL_law_246 (by decide) (by omega) (by omega) (fun h11 => ?_) (fun h11 => ?_)
                                · refine lv_iconst (v := nI 1) hx hb dL_law_271 (by decide) ?_
                                  exact hret _ _ _ _ _ _ hS dL_law_272 (by omega) (by omega)
                                · exact absurd h11 (by omega)
                              | succ k4 ih =>
                                intro z9 H locs ls hk4 hW hT hS hl
                                refine lv_iload hx hb dL_law_241 (lv_at hl 3 rfl) ?_
                                refine lv_aload hx hb dL_law_243 (lv_at hl 2 rfl) ?_
                                refine rs_alen hx hb hK hT dL_law_245 ?_
                                refine rs_cge (tgt := 271) hx hb dL_law_246 (by decide) (by omega) (by omega) (fun h11 => ?_) (fun h11 => ?_)
                                · exact absurd h11 (by omega)
                                · refine lv_aload_n hx hb dL_law_249 rfl (lv_at hl 1 rfl) ?_
                                  refine lv_iload hx hb dL_law_250 (lv_at hl 3 rfl) ?_
                                  refine rs_cVi (As := [.int (nI z9)]) (rest := []) hx hb hml hown hts hK (hF.k0 (rs_S.X hS)) hS hA hl.1 (met_X1_got E l x wk wd sn gt i (2 * w8) z9 cw sc g2 (by omega) (by omega)) vf_X1_got q81 ⟨by omega, by omega⟩ (fun q9 _ h9 => Or.inr (hw4 q9 h9)) (fun q9 h9 => rs_Wd.lt hW q9 h9) (rs_O.rc hW.1 hK rfl) ⟨hW, hDi⟩ rfl rfl (Nat.le_of_ble_eq_true rfl) ⟨by omega, by omega⟩ dL_law_252 (fun r H locs hX hp hS => ?_)
                                  obtain ⟨hr9, hW⟩ := hp
                                  subst hr9
                                  have hT := hT.kept hX hst4
                                  refine lv_aload hx hb dL_law_255 (lv_at hl 2 rfl) ?_
                                  refine lv_iload hx hb dL_law_257 (lv_at hl 3 rfl) ?_
                                  refine rs_iald hx hb hK hT (by omega) (by omega) dL_law_259 ?_
                                  refine rs_ceq (tgt := 265) hx hb dL_law_260 (by decide) (rs_lt _) (rs_lt _) (fun h12 => ?_) (fun h12 => ?_)
                                  · refine lv_iinc (v := nI (z9 + 1)) (lv' := [(7, .int (nI (z9 + 1))), (0, .ref b), (1, .ref x), (4, .ref st)]) hx hb dL_law_265 hl (k := 3) rfl (nI_1 _) (by decide) rfl (fun ls hl => ?_)
                                    refine lv_goto (tgt := 241) hx hb dL_law_268 (by decide) ?_
                                    exact ih (z9 + 1) _ _ ls (by omega) hW hT hS (lv_sub hl [1, 2, 3, 0] rfl)
                                  · exact absurd (by rw [hg2 z9 (by omega)]) h12
                            exact loopZ (i + 2 * w8) 0 _ _ ls (by omega) hW hT hS (lv_sub hl [2, 3, 5, 0] rfl)
                          · exact absurd h10 (by omega)
                        · exact absurd h8 (by omega)
                      | succ k3 ih =>
                        intro q9 H locs ls hk3 hW hT hS hl
                        refine lv_iload hx hb dL_law_187 (lv_at hl 5 rfl) ?_
                        refine lv_aload hx hb dL_law_189 (lv_at hl 3 rfl) ?_
                        refine rs_alen hx hb hK hT dL_law_191 ?_
                        refine rs_cge (tgt := 218) hx hb dL_law_192 (by decide) (by omega) (by omega) (fun h8 => ?_) (fun h8 => ?_)
                        · exact absurd h8 (by omega)
                        · refine lv_aload_n hx hb dL_law_195 rfl (lv_at hl 1 rfl) ?_
                          refine lv_iload hx hb dL_law_196 (lv_at hl 5 rfl) ?_
                          refine rs_cVi (As := [.int (nI q9)]) (rest := []) hx hb hml hown hts hK (hF.k0 (rs_S.X hS)) hS hA hl.1 (met_X1_got E l x wk wd sn gt i (2 * w8) q9 cw sc g (by omega) (by omega)) vf_X1_got q81 ⟨by omega, by omega⟩ (fun q9 _ h9 => Or.inr (hw4 q9 h9)) (fun q9 h9 => rs_Wd.lt hW q9 h9) (rs_O.rc hW.1 hK rfl) ⟨hW, hDi⟩ rfl rfl (Nat.le_of_ble_eq_true rfl) ⟨by omega, by omega⟩ dL_law_198 (fun r H locs hX hp hS => ?_)
                          obtain ⟨hr9, hW⟩ := hp
                          subst hr9
                          have hT := hT.kept hX hst4
                          refine lv_aload hx hb dL_law_201 (lv_at hl 3 rfl) ?_
                          refine lv_iload hx hb dL_law_203 (lv_at hl 5 rfl) ?_
                          refine rs_iald hx hb hK hT (by omega) (by omega) dL_law_205 ?_
                          refine rs_ceq (tgt := 212) hx hb dL_law_206 (by decide) (rs_lt _) (rs_lt _) (fun h9 => ?_) (fun h9 => ?_)
                          · have h9 : g q9 = sc q9 := Fin.ext h9
                            have hel : (rs_el (fun j => g j - sc j) (i + 2 * w8) (q9 + 1)).length = (rs_el (fun j => g j - sc j) (i + 2 * w8) q9).length := by
                              show (if g q9 - sc q9 = 0 then _ else _ : List (rsK × rsK)).length = _
                              rw [if_pos (by rw [h9]; grind)]
                            refine lv_iinc (v := nI (q9 + 1)) (lv' := [(6, .int (nI (q9 + 1))), (0, .ref b), (1, .ref x), (3, .int (nI (2 * w8))), (4, .ref st), (5, .int (nI ((rs_el (fun j => g j - sc j) (i + 2 * w8) q9).length)))]) hx hb dL_law_212 hl (k := 5) rfl (nI_1 _) (by decide) rfl (fun ls hl => ?_)
                            refine lv_goto (tgt := 187) hx hb dL_law_215 (by decide) ?_
                            exact ih (q9 + 1) _ _ ls (by omega) hW hT hS (by rw [hel]; exact lv_sub hl [1, 2, 3, 4, 5, 0] rfl)
                          · have h9 : g q9 ≠ sc q9 := fun z => h9 (by rw [z])
                            have hel : (rs_el (fun j => g j - sc j) (i + 2 * w8) (q9 + 1)).length = (rs_el (fun j => g j - sc j) (i + 2 * w8) q9).length + 1 := by
                              show (if g q9 - sc q9 = 0 then _ else _ : List (rsK × rsK)).length = _
                              rw [if_neg (fun z => h9 (rs_sub_eq z))]
                              rfl
                            refine lv_iinc (v := nI (((rs_el (fun j => g j - sc j) (i + 2 * w8) q9).length) + 1)) (lv' := [(5, .int (nI (((rs_el (fun j => g j - sc j) (i + 2 * w8) q9).length) + 1))), (0, .ref b), (1, .ref x), (3, .int (nI (2 * w8))), (4, .ref st), (6, .int (nI q9))]) hx hb dL_law_209 hl (k := 4) rfl (nI_1 _) (by decide) rfl (fun ls hl => ?_)
                            refine lv_iinc (v := nI (q9 + 1)) (lv' := [(6, .int (nI (q9 + 1))), (5, .int (nI (((rs_el (fun j => g j - sc j) (i + 2 * w8) q9).length) + 1))), (0, .ref b), (1, .ref x), (3, .int (nI (2 * w8))), (4, .ref st)]) hx hb dL_law_212 hl (k := 5) rfl (nI_1 _) (by decide) rfl (fun ls hl => ?_)
                            refine lv_goto (tgt := 187) hx hb dL_law_215 (by decide) ?_
                            exact ih (q9 + 1) _ _ ls (by omega) hW hT hS (by rw [hel]; exact lv_sub hl [2, 3, 4, 5, 1, 0] rfl)
                    exact loopC (i + 2 * w8) 0 _ _ ls (by omega) hW hT hS (lv_sub hl [2, 3, 4, 5, 1, 0] rfl)
                  have loopH : ∀ (k2 : Nat) (j9 : Nat) (g : Nat → rsK) (H : Heap) (locs : List Loc) (ls : Array Slot), j9 + k2 = w8 → (rs_el (fun j => g j - sc j) (i + 2 * w8) (i + 2 * w8)).length ≤ j9 → rs_Wd E H x wk wd sn gt i (2 * w8) 1 cw sc g → rs_A E H st (i + 2 * w8) sc → va_S (rs_W0 rs_no s.heap.size) s.heap H locs → lv_has ls 8 [(0, .ref b), (1, .ref x), (3, .int (nI (2 * w8))), (4, .ref st), (5, .int (nI j9))] → W p l e R s m args below meth c H locs (0 + 1 + 4 + 2 + 1) (0 + 7 + 194 + 50 + (i + 2 * w8)) Q (F0 m 132 ls []) := by
                    intro k2
                    induction k2 with
                    | zero =>
                      intro j9 g H locs ls hk2 hcnt hW hT hS hl
                      refine lv_iload hx hb dL_law_132 (lv_at hl 4 rfl) ?_
                      refine lv_iload_n hx hb dL_law_134 rfl (lv_at hl 2 rfl) ?_
                      refine lv_iconst (v := nI 2) hx hb dL_law_135 (by decide) ?_
                      refine rs_idiv hx hb dL_law_136 (by decide) (by omega) (by decide) ?_
                      refine rs_top (b := w8) (by omega) ?_
                      refine rs_cge (tgt := 181) hx hb dL_law_137 (by decide) (by omega) (by omega) (fun h6 => ?_) (fun h6 => ?_)
                      · exact fin j9 g _ _ ls (by omega) hW hT hS hl
                      · exact absurd h6 (by omega)
                    | succ k2 ih =>
                      intro j9 g H locs ls hk2 hcnt hW hT hS hl
                      refine lv_iload hx hb dL_law_132 (lv_at hl 4 rfl) ?_
                      refine lv_iload_n hx hb dL_law_134 rfl (lv_at hl 2 rfl) ?_
                      refine lv_iconst (v := nI 2) hx hb dL_law_135 (by decide) ?_
                      refine rs_idiv hx hb dL_law_136 (by decide) (by omega) (by decide) ?_
                      refine rs_top (b := w8) (by omega) ?_
                      refine rs_cge (tgt := 181) hx hb dL_law_137 (by decide) (by omega) (by omega) (fun h6 => ?_) (fun h6 => ?_)
                      · exact absurd h6 (by omega)
                      · refine lv_bipush (v := nI 18) hx hb dL_law_140 (by decide) ?_
                        refine lv_iconst (v := nI 2) hx hb dL_law_142 (by decide) ?_
                        refine lv_iload hx hb dL_law_143 (lv_at hl 4 rfl) ?_
                        refine rs_imul hx hb dL_law_145 ?_
                        refine rs_iadd hx hb dL_law_146 ?_
                        refine lv_aload_n hx hb dL_law_147 rfl (lv_at hl 0 rfl) ?_
                        refine va_slen hx hb hXs hbl hbA hS dL_law_148 ?_
                        refine rs_cge (tgt := 181) hx hb dL_law_149 (by decide) (by omega) (by omega) (fun h7 => ?_) (fun h7 => ?_)
                        · exact fin j9 g _ _ ls (by omega) hW hT hS hl
                        · refine lv_aload_n hx hb dL_law_152 rfl (lv_at hl 1 rfl) ?_
                          refine lv_aload_n hx hb dL_law_153 rfl (lv_at hl 0 rfl) ?_
                          refine lv_bipush (v := nI 17) hx hb dL_law_154 (by decide) ?_
                          refine lv_iconst (v := nI 2) hx hb dL_law_156 (by decide) ?_
                          refine lv_iload hx hb dL_law_157 (lv_at hl 4 rfl) ?_
                          refine rs_imul hx hb dL_law_159 ?_
                          refine rs_iadd hx hb dL_law_160 ?_
                          refine va_sld hx hb hXs hbl hbA hS (vp_in_nI (show 17 + 2 * j9 < L by omega) (by omega)) dL_law_161 ?_
                          rw [nI_clamp (show 17 + 2 * j9 < 2 ^ 31 by omega)]
                          refine lv_aload_n hx hb dL_law_162 rfl (lv_at hl 0 rfl) ?_
                          refine lv_bipush (v := nI 18) hx hb dL_law_163 (by decide) ?_
                          refine lv_iconst (v := nI 2) hx hb dL_law_165 (by decide) ?_
                          refine lv_iload hx hb dL_law_166 (lv_at hl 4 rfl) ?_
                          refine rs_imul hx hb dL_law_168 ?_
                          refine rs_iadd hx hb dL_law_169 ?_
                          refine va_sld hx hb hXs hbl hbA hS (vp_in_nI (show 18 + 2 * j9 < L by omega) (by omega)) dL_law_170 ?_
                          rw [nI_clamp (show 18 + 2 * j9 < 2 ^ 31 by omega)]
                          refine rs_cVi (As := [.int (xs (17 + 2 * j9)), .int (xs (18 + 2 * j9))]) (rest := []) hx hb hml hown hts hK (hF.k0 (rs_S.X hS)) hS hA hl.1 (met_X1_harm E l x wk wd sn gt i (2 * w8) cw sc g (xs (17 + 2 * j9)) (xs (18 + 2 * j9)) (by omega) (by omega)) vf_X1_harm q77 ⟨by omega, by omega⟩ (fun q9 _ h9 => Or.inr (hw4 q9 h9)) (fun q9 h9 => rs_Wd.lt hW q9 h9) (rs_O.rc hW.1 hK rfl) ⟨hW, hDi⟩ rfl rfl (Nat.le_of_ble_eq_true rfl) ⟨by omega, by omega⟩ dL_law_171 (fun r H locs hX hp hS => ?_)
                          obtain ⟨hr9, hW⟩ := hp
                          subst hr9
                          have hT := hT.kept hX hst4
                          have hc1 := rs_cnt_up g sc (i + 2 * w8) (rs_m (xs (17 + 2 * j9)) % (i + 2 * w8)) (rs_v (xs (18 + 2 * j9))) (i + 2 * w8)
                          have hc2 : (if rs_m (xs (17 + 2 * j9)) % (i + 2 * w8) < i + 2 * w8 then 1 else 0) ≤ 1 := by split <;> omega
                          refine lv_pop hx hb dL_law_174 rfl ?_
                          refine lv_iinc (v := nI (j9 + 1)) (lv' := [(5, .int (nI (j9 + 1))), (0, .ref b), (1, .ref x), (3, .int (nI (2 * w8))), (4, .ref st)]) hx hb dL_law_175 hl (k := 4) rfl (nI_1 _) (by decide) rfl (fun ls hl => ?_)
                          refine lv_goto (tgt := 132) hx hb dL_law_178 (by decide) ?_
                          exact ih (j9 + 1) _ _ _ ls (by omega) (by omega) hW hT hS (lv_sub hl [1, 2, 3, 4, 0] rfl)
                  exact loopH w8 0 gc _ _ ls (by omega) (by rw [rs_el_00 _ _ (fun j hj => by rw [hgs j hj]; grind) _ (Nat.le_refl _)]; exact Nat.le_refl 0) hW hT hS (lv_sub hl [1, 2, 3, 4, 0] rfl)
                · exact absurd h5 (by omega)
              | succ k ih =>
                intro j9 u H locs ls hk hu hW hT hS hl
                refine lv_iload hx hb dL_law_104 (lv_at hl 4 rfl) ?_
                refine lv_aload hx hb dL_law_106 (lv_at hl 3 rfl) ?_
                refine rs_alen hx hb hK hT dL_law_108 ?_
                refine rs_cge (tgt := 129) hx hb dL_law_109 (by decide) (by omega) (by omega) (fun h5 => ?_) (fun h5 => ?_)
                · exact absurd h5 (by omega)
                · refine lv_aload hx hb dL_law_112 (lv_at hl 3 rfl) ?_
                  refine lv_iload hx hb dL_law_114 (lv_at hl 4 rfl) ?_
                  refine lv_aload_n hx hb dL_law_116 rfl (lv_at hl 1 rfl) ?_
                  refine lv_iload hx hb dL_law_117 (lv_at hl 4 rfl) ?_
                  refine rs_cVi (As := [.int (nI j9)]) (rest := [.int (nI j9), .ref st]) hx hb hml hown hts hK (hF.k0 (rs_S.X hS)) hS hA hl.1 (met_X1_got E l x wk wd sn gt i (2 * w8) j9 cw sc gc (by omega) (by omega)) vf_X1_got q81 ⟨by omega, by omega⟩ (fun q9 _ h9 => Or.inr (hw4 q9 h9)) (fun q9 h9 => rs_Wd.lt hW q9 h9) (rs_O.rc hW.1 hK rfl) ⟨hW, hDi⟩ rfl rfl (Nat.le_of_ble_eq_true rfl) ⟨by omega, by omega⟩ dL_law_119 (fun r H locs hX hp hS => ?_)
                  obtain ⟨hr9, hW⟩ := hp
                  subst hr9
                  have hT := hT.kept hX hst4
                  refine rs_iast hx hb hK (gc j9) hT hS (hA _ hs_st) (by omega) (by omega) dL_law_122 (fun H locs hT ho hz hS => ?_)
                  have hW := hW.st ho hstn
                  refine lv_iinc (v := nI (j9 + 1)) (lv' := [(5, .int (nI (j9 + 1))), (0, .ref b), (1, .ref x), (3, .int (nI (2 * w8))), (4, .ref st)]) hx hb dL_law_123 hl (k := 4) rfl (nI_1 _) (by decide) rfl (fun ls hl => ?_)
                  refine lv_goto (tgt := 104) hx hb dL_law_126 (by decide) ?_
                  exact ih (j9 + 1) (va_up u j9 (gc j9)) _ _ ls (by omega) (fun a ha => by
                    unfold va_up
                    by_cases haj : a = j9
                    · rw [if_pos haj, haj]; exact hgs j9 (by omega)
                    · rw [if_neg haj]; exact hu a (by omega)) hW hT hS (lv_sub hl [1, 2, 3, 4, 0] rfl)
            exact loopG (i + 2 * w8) 0 (fun _ => 0) _ _ ls (by omega) (fun a ha => absurd ha (by omega)) hW hT hS (lv_sub hl [0, 1, 3, 4, 5] rfl)
          · exact absurd rfl h4
      · exact absurd h3 (by omega)
    | succ k ih =>
      intro i cw H locs ls hk hW hS hl
      refine lv_iload hx hb dL_law_46 (lv_at hl 4 rfl) ?_
      refine lv_iload_n hx hb dL_law_48 rfl (lv_at hl 2 rfl) ?_
      refine rs_cge (tgt := 75) hx hb dL_law_49 (by decide) (by omega) (by omega) (fun h3 => ?_) (fun h3 => ?_)
      · exact absurd h3 (by omega)
      · refine lv_aload_n hx hb dL_law_52 rfl (lv_at hl 1 rfl) ?_
        refine lv_aload_n hx hb dL_law_53 rfl (lv_at hl 0 rfl) ?_
        refine lv_iconst (v := nI 1) hx hb dL_law_54 (by decide) ?_
        refine lv_iload hx hb dL_law_55 (lv_at hl 4 rfl) ?_
        refine rs_iadd hx hb dL_law_57 ?_
        refine rs_cell_call hx hb hml hown hts hS hl.1 hXs hbl hL (k := (1 + i)) (by omega) ⟨by omega, by omega⟩ (Nat.le_of_ble_eq_true rfl) ⟨by omega, by omega⟩ dL_law_58 (fun H locs hX hS => ?_)
        have hW := hW.k0 hX
        refine rs_cVi (As := [.int (rs_cl xs L (1 + i))]) (rest := []) hx hb hml hown hts hK (hF.k0 (rs_S.X hS)) hS hA hl.1 (met_X1_put E l x wk wd sn gt i (2 * w8) 0 cw (fun _ => 0) (fun _ => 0) (rs_cl xs L (1 + i)) (by omega)) vf_X1_put q60 ⟨by omega, by omega⟩ (fun q9 _ h9 => Or.inr (hw4 q9 h9)) (fun q9 h9 => rs_Wd.lt hW q9 h9) (rs_O.rc hW.1 hK rfl) ⟨hW, hDi⟩ rfl rfl (Nat.le_of_ble_eq_true rfl) ⟨by omega, by omega⟩ dL_law_61 (fun r H locs hX hp hS => ?_)
        obtain ⟨hr9, hW⟩ := hp
        subst hr9
        refine rs_ifne (tgt := 69) hx hb dL_law_64 (by decide) (by decide) (fun h4 => ?_) (fun h4 => ?_)
        · refine lv_iinc (v := nI (i + 1)) (lv' := [(4, .int (nI (i + 1))), (0, .ref b), (1, .ref x), (2, .int (nI nn)), (3, .int (nI (2 * w8)))]) hx hb dL_law_69 hl (k := 4) rfl (nI_1 _) (by decide) rfl (fun ls hl => ?_)
          refine lv_goto (tgt := 46) hx hb dL_law_72 (by decide) ?_
          exact ih (i + 1) _ _ _ ls (by omega) hW hS (lv_sub hl [1, 2, 3, 4, 0] rfl)
        · exact absurd h4 (by decide)
  exact loopP nn 0 (fun _ => 0) _ _ ls (by omega) hW hS (lv_sub hl [4, 3, 2, 1, 0] rfl)
end
section
/-! the world at the start: the field's object, its tables, zero and one, out of the Statement's premises -/
abbrev rs_tG : Term := Term.static "ModulusGF" "PDF417_GF" "LModulusGF;"
abbrev rs_tF (n d : String) : Term := Term.field rs_tG "ModulusGF" n d
abbrev rs_tC (n : String) : Term := Term.field (rs_tF n "LModulusPoly;") "ModulusPoly" "coefficients" "[I"
abbrev rs_prem : List Cond := flatC (Jvm.Cond.and given_1 narrow_1)
def rs_fE (i : Nat) : Cond := Cond.eq (Term.elem (rs_tF "expTable" "[I") (Term.int (nI i))) (Term.int (nI (3 ^ i % 929)))
def rs_fL (i : Nat) : Cond := Cond.eq (Term.elem (rs_tF "logTable" "[I") (Term.int (nI i))) (Term.int (nI (rs_L.getD i 0)))
set_option maxRecDepth 100000
theorem rs_pE : (List.range 929).map rs_fE = (rs_prem.drop 11).take 929 := by decide +kernel
theorem rs_pL : (List.range 929).map rs_fL = (rs_prem.drop 944).take 929 := by decide +kernel
theorem rs_p_G : Cond.exactly rs_tG "ModulusGF" ∈ rs_prem := List.mem_of_getElem? (i := 5) (by decide +kernel)
theorem rs_p_Eu : Cond.untouched (rs_tF "expTable" "[I") ∈ rs_prem := List.mem_of_getElem? (i := 9) (by decide +kernel)
theorem rs_p_El : Cond.eq (Term.length (rs_tF "expTable" "[I")) (Term.int (nI 929)) ∈ rs_prem := List.mem_of_getElem? (i := 10) (by decide +kernel)
theorem rs_p_Ex : Cond.exactly (rs_tF "expTable" "[I") "[I" ∈ rs_prem := List.mem_of_getElem? (i := 1960) (by decide +kernel)
theorem rs_p_Lu : Cond.untouched (rs_tF "logTable" "[I") ∈ rs_prem := List.mem_of_getElem? (i := 942) (by decide +kernel)
theorem rs_p_Ll : Cond.eq (Term.length (rs_tF "logTable" "[I")) (Term.int (nI 929)) ∈ rs_prem := List.mem_of_getElem? (i := 943) (by decide +kernel)
theorem rs_p_Lx : Cond.exactly (rs_tF "logTable" "[I") "[I" ∈ rs_prem := List.mem_of_getElem? (i := 1961) (by decide +kernel)
theorem rs_p_Zx : Cond.exactly (rs_tF "zero" "LModulusPoly;") "ModulusPoly" ∈ rs_prem := List.mem_of_getElem? (i := 1873) (by decide +kernel)
theorem rs_p_Zu : Cond.untouched (rs_tF "zero" "LModulusPoly;") ∈ rs_prem := List.mem_of_getElem? (i := 1874) (by decide +kernel)
theorem rs_p_Zf : Cond.eq (Term.field (rs_tF "zero" "LModulusPoly;") "ModulusPoly" "field" "LModulusGF;") rs_tG ∈ rs_prem := List.mem_of_getElem? (i := 1875) (by decide +kernel)
theorem rs_p_Zcu : Cond.untouched (rs_tC "zero") ∈ rs_prem := List.mem_of_getElem? (i := 1878) (by decide +kernel)
theorem rs_p_Zcl : Cond.eq (Term.length (rs_tC "zero")) (Term.int (nI 1)) ∈ rs_prem := List.mem_of_getElem? (i := 1879) (by decide +kernel)
theorem rs_p_Zce : Cond.eq (Term.elem (rs_tC "zero") (Term.int (nI 0))) (Term.int (nI 0)) ∈ rs_prem := List.mem_of_getElem? (i := 1880) (by decide +kernel)
theorem rs_p_Zcx : Cond.exactly (rs_tC "zero") "[I" ∈ rs_prem := List.mem_of_getElem? (i := 1962) (by decide +kernel)
theorem rs_p_Ox : Cond.exactly (rs_tF "one" "LModulusPoly;") "ModulusPoly" ∈ rs_prem := List.mem_of_getElem? (i := 1881) (by decide +kernel)
theorem rs_p_Ou : Cond.untouched (rs_tF "one" "LModulusPoly;") ∈ rs_prem := List.mem_of_getElem? (i := 1882) (by decide +kernel)
theorem rs_p_Of : Cond.eq (Term.field (rs_tF "one" "LModulusPoly;") "ModulusPoly" "field" "LModulusGF;") rs_tG ∈ rs_prem := List.mem_of_getElem? (i := 1883) (by decide +kernel)
theorem rs_p_Ocu : Cond.untouched (rs_tC "one") ∈ rs_prem := List.mem_of_getElem? (i := 1886) (by decide +kernel)
theorem rs_p_Ocl : Cond.eq (Term.length (rs_tC "one")) (Term.int (nI 1)) ∈ rs_prem := List.mem_of_getElem? (i := 1887) (by decide +kernel)
theorem rs_p_Oce : Cond.eq (Term.elem (rs_tC "one") (Term.int (nI 0))) (Term.int (nI 1)) ∈ rs_prem := List.mem_of_getElem? (i := 1888) (by decide +kernel)
theorem rs_p_Ocx : Cond.exactly (rs_tC "one") "[I" ∈ rs_prem := List.mem_of_getElem? (i := 1963) (by decide +kernel)
theorem rs_p_M : Cond.eq (rs_tF "modulus" "I") (Term.int (nI 929)) ∈ rs_prem := List.mem_of_getElem? (i := 1889) (by decide +kernel)
theorem rs_OFof {args : Array Value} {s : State} {tm : Term} {o n d : String} {v : Value} {a : Nat} {B : Nat → Prop} (ht : tm.eval args s none [] s = some (.ref a)) (hv : (Term.field tm o n d).eval args s none [] s = some v) (hB : ¬ B a) : va_OF o n d v a B s s.heap := by
  cases hfo : s.fieldFound? o n d with
  | none =>
    rw [va_fe ht] at hv
    simp [State.fieldOf?, State.fieldNamed?, hfo] at hv
  | some x =>
    obtain ⟨cf, k, fi, f⟩ := x
    obtain ⟨g1, cell, g2, g3, -, -, g6⟩ := Term.field_spec hfo ht hv
    exact ⟨cf, k, fi, f, cell, hfo, g1, g2, g3, g6, hB⟩
theorem rs_cell_eq {cell : Cell} (h1 : cell.monitor = {}) (h2 : cell.hash = none) (h3 : cell.vm = .none) : cell = arrV cell.cls cell.slots.size (fun j => cell.slots.getD j .null) := by
  obtain ⟨cls, slots, monitor, hash, vm⟩ := cell
  dsimp only at h1 h2 h3
  subst h1; subst h2; subst h3
  unfold arrV
  congr 1
  apply Array.ext
  · simp
  · intro j h4 h5
    simp [h4]
theorem rs_Aof {args : Array Value} {s : State} {E : rsE} {tm : Term} {N : Nat} {cf : Nat → rsK} (hd : s.vm.findClass "[I" = some E.2.1) (hN : N < 2 ^ 31) (hex : (Cond.exactly tm "[I").before args s = true) (hut : (Cond.untouched tm).before args s = true) (hlen : (Cond.eq (Term.length tm) (Term.int (nI N))).before args s = true) (hel : ∀ j, j < N → (Cond.eq (Term.elem tm (Term.int (nI j))) (Term.int (kI (cf j)))).before args s = true) : ∃ a, tm.eval args s none [] s = some (.ref a) ∧ rs_A E s.heap a N cf := by
  obtain ⟨a, c, cell, k, q1, q2, q3, q4, q5, q6, -⟩ := Cond.exactly_spec hex
  obtain ⟨a2, cell2, u1, u2, u3, u4, u5⟩ := Cond.untouched_spec hut
  cases q1.symm.trans u1
  cases q3.symm.trans u2
  obtain ⟨a3, cell3, l1, l2, l3⟩ := Term.length_spec (va_eqt hlen)
  cases q1.symm.trans l1
  obtain ⟨l4, -⟩ := State.arrayAt?_spec l2
  cases q3.symm.trans l4
  have key : ∀ j : Nat, j < N → j < cell.slots.size ∧ cell.slots[j]? = some (.int (kI (cf j))) := by
    intro j hj
    obtain ⟨a4, i, cell4, h1, h2, h3, h4, h5⟩ := Term.elem_spec (va_eqt (hel j hj))
    cases q1.symm.trans h1
    cases l2.symm.trans h3
    have hi : i = nI j := by
      have e : (Term.int (nI j)).eval args s none [] s = some (.int (nI j)) := rfl
      cases h2.symm.trans e
      rfl
    have hc : i.toNatClampNeg = j := by rw [hi]; exact nI_clamp (Nat.lt_trans hj hN)
    rw [hc] at h4 h5
    exact ⟨Nat.not_le.mp fun q => h4 (Or.inr q), h5⟩
  refine ⟨a, q1, cell.slots.size, fun j => cell.slots.getD j .null, ?_, ?_, ?_, fun j hj => ?_⟩
  · have e1 : cell.cls = E.2.1 := by rw [q6]; exact Option.some.inj (q2.symm.trans hd)
    have e2 := rs_cell_eq u3 u4 u5
    rw [e1] at e2
    rw [q3]
    exact congrArg some e2
  · cases N with
    | zero => exact Nat.zero_le _
    | succ n => exact (key n (Nat.lt_succ_self n)).1
  · exact (Value.int.inj l3).symm
  · show cell.slots.getD j .null = _
    rw [Array.getD_eq_getD_getElem?, (key j hj).2]
    rfl
theorem rs_Oof {args : Array Value} {s : State} {tm : Term} {cC : ClassId} {iS : Nat → Nat} {v0 v1 : Value} (hKn : u_Kn s RX4 TX4 2 cC iS) (hex : (Cond.exactly tm "ModulusPoly").before args s = true) (hut : (Cond.untouched tm).before args s = true) {a : Nat} (ht : tm.eval args s none [] s = some (.ref a)) (hf0 : (Term.field tm "ModulusPoly" "field" "LModulusGF;").eval args s none [] s = some v0) (hf1 : (Term.field tm "ModulusPoly" "coefficients" "[I").eval args s none [] s = some v1) : t_OB a cC 2 iS s.heap (vp_V [v0, v1]) := by
  obtain ⟨a1, c, cell, k, q1, q2, q3, q4, q5, q6, -⟩ := Cond.exactly_spec hex
  obtain ⟨a2, cell2, u1, u2, u3, u4, u5⟩ := Cond.untouched_spec hut
  cases ht.symm.trans q1
  cases ht.symm.trans u1
  cases q3.symm.trans u2
  have hc : c = cC := Option.some.inj (q2.symm.trans hKn.2.1)
  refine ⟨cell, q3, by rw [q6, hc], u5, fun k9 hk => ?_⟩
  have fld : ∀ (o n d : String) (v : Value) (i : Nat), SlotIs s o n d i → (Term.field tm o n d).eval args s none [] s = some v → cell.slots[i]? = some v := by
    intro o n d v i hsl hv
    obtain ⟨cf, kf, fi, fd, hfo, hi⟩ := hsl
    obtain ⟨-, cell3, g2, -, -, -, g6⟩ := Term.field_spec hfo ht hv
    cases q3.symm.trans g2
    rw [← hi]; exact g6
  rcases (show k9 = 0 ∨ k9 = 1 by omega) with rfl | rfl
  · exact fld _ _ _ v0 _ (hKn.1 0 (by omega)) hf0
  · exact fld _ _ _ v1 _ (hKn.1 1 (by omega)) hf1
/-- everything that the walk of the law stands on, at the claim's start -/
theorem rs_world {s : State} {b : Nat} (hts0 : ∀ w ∈ lw_tbl, w.before #[Value.ref b] s = true) (hgv : (Jvm.Cond.and given_1 narrow_1).before #[Value.ref b] s = true) : ∃ E : rsE, rs_KK E s ∧ rs_F E s s.heap ∧ ∀ i, i < 8 → E.2.2 i < s.heap.size := by
  have hp : ∀ c ∈ rs_prem, c.before #[Value.ref b] s = true := flat_of_before _ hgv
  obtain ⟨c0, i0, k0⟩ := u_known (C := RX4) (T := TX4) (N := 2) (n := 2) hts0 (fun w h => lw_all_tbl (in_X4 w h)) (hts0 _ (lw_all_tbl q95))
  obtain ⟨c1, i1, k1⟩ := u_known (C := RX2) (T := TX2) (N := 1) (n := 1) hts0 (fun w h => lw_all_tbl (in_X2 w h)) (hts0 _ (lw_all_tbl q26))
  obtain ⟨c2, i2, k2⟩ := u_known (C := RX1) (T := TX1) (N := 7) (n := 7) hts0 (fun w h => lw_all_tbl (in_X1 w h)) (hts0 _ (lw_all_tbl q18))
  obtain ⟨dA, kA, comp, a1, a2, a3⟩ := Cond.arrayClass_spec (hts0 _ (lw_all_tbl q59))
  have hd : s.vm.findClass "[I" = some dA := a1
  obtain ⟨g0, cG, cellG, kG, gv, gc, gh, -, gs, ge, -⟩ := Cond.exactly_spec (hp _ rs_p_G)
  obtain ⟨cfS, kfS, fiS, fS, g7, cellS, z1, z2, z3, z4, z5, z6, z7, -⟩ := va_Zof (A := rs_no) (hts0 _ q32) (hts0 _ (lw_all_tbl q7)) gv (fun _ _ z => z)
  obtain ⟨g1, e1, f1⟩ := rs_Aof (E := (((fun _ => c0), fun _ => i0), dA, fun _ => 0)) (cf := rs_x) hd (by decide) (hp _ rs_p_Ex) (hp _ rs_p_Eu) (hp _ rs_p_El) (fun j hj => hp _ (va_run rs_pE j hj))
  obtain ⟨g2, e2, f2⟩ := rs_Aof (E := (((fun _ => c0), fun _ => i0), dA, fun _ => 0)) (cf := fun i => rs_n (rs_L.getD i 0)) hd (by decide) (hp _ rs_p_Lx) (hp _ rs_p_Lu) (hp _ rs_p_Ll) (fun j hj => by
    have h9 := hp _ (va_run rs_pL j hj)
    have h8 : kI (rs_n (rs_L.getD j 0)) = nI (rs_L.getD j 0) := by
      show nI (rs_n (rs_L.getD j 0)).val = _
      by_cases hj0 : j = 0
      · subst hj0; rfl
      · have h7 := (rs_chk_at rs_L 0 j rs_L_ok (by rw [rs_L_len]; exact hj) (by omega)).1
        rw [rs_n_val (by omega)]
    rw [h8]
    exact h9)
  obtain ⟨g4, e4, f4⟩ := rs_Aof (E := (((fun _ => c0), fun _ => i0), dA, fun _ => 0)) (cf := fun _ => 0) hd (by decide) (hp _ rs_p_Zcx) (hp _ rs_p_Zcu) (hp _ rs_p_Zcl) (fun j hj => by rw [show j = 0 by omega]; exact hp _ rs_p_Zce)
  obtain ⟨g6, e6, f6⟩ := rs_Aof (E := (((fun _ => c0), fun _ => i0), dA, fun _ => 0)) (cf := fun _ => 1) hd (by decide) (hp _ rs_p_Ocx) (hp _ rs_p_Ocu) (hp _ rs_p_Ocl) (fun j hj => by rw [show j = 0 by omega]; exact hp _ rs_p_Oce)
  obtain ⟨g3, -, cell3, -, e3, -, h3, -⟩ := Cond.exactly_spec (hp _ rs_p_Zx)
  obtain ⟨g5, -, cell5, -, e5, -, h5, -⟩ := Cond.exactly_spec (hp _ rs_p_Ox)
  have o3 := rs_Oof k0 (hp _ rs_p_Zx) (hp _ rs_p_Zu) e3 (va_eqv (hp _ rs_p_Zf) gv) e4
  have o5 := rs_Oof k0 (hp _ rs_p_Ox) (hp _ rs_p_Ou) e5 (va_eqv (hp _ rs_p_Of) gv) e6
  have em := va_eqt (hp _ rs_p_M)
  refine ⟨((fun k => if k = 0 then c0 else if k = 1 then c1 else c2, fun k => if k = 0 then i0 else if k = 1 then i1 else i2), dA, fun i => match i with | 0 => g0 | 1 => g1 | 2 => g2 | 3 => g3 | 4 => g4 | 5 => g5 | 6 => g6 | _ => g7), ⟨⟨fun k q hq => ?_, fun k q hq => ?_⟩, va_AO.of (hts0 _ q297)⟩, ?_, fun i hi => ?_⟩
  · match k, hq with
    | 0, hq => cases hq; exact k0
    | 1, hq => cases hq; exact k1
    | 2, hq => cases hq; exact k2
    | k + 3, hq => simp [rsCl] at hq
  · cases k with
    | zero => cases hq; exact ⟨fun n z => ⟨fun k h => (by cases h), kA, a2, comp, a3⟩, a1⟩
    | succ k => cases hq
  · have nf : ∀ i, i < 8 → ¬ rs_FA ((fun k => if k = 0 then c0 else if k = 1 then c1 else c2, fun k => if k = 0 then i0 else if k = 1 then i1 else i2), dA, fun i => match i with | 0 => g0 | 1 => g1 | 2 => g2 | 3 => g3 | 4 => g4 | 5 => g5 | 6 => g6 | _ => g7) ((fun i => match i with | 0 => g0 | 1 => g1 | 2 => g2 | 3 => g3 | 4 => g4 | 5 => g5 | 6 => g6 | _ => g7 : Nat → Nat) i) := fun i hi z => z i hi rfl
    exact ⟨⟨cellG, gh, gs, by rw [ge]; exact gc, nf 0 (by omega)⟩, rs_OFof gv e1 (nf 0 (by omega)), rs_OFof gv e2 (nf 0 (by omega)), rs_OFof gv e3 (nf 0 (by omega)), rs_OFof gv e5 (nf 0 (by omega)), rs_OFof gv em (nf 0 (by omega)), f1, f2, ⟨_, rfl, o3⟩, f4, ⟨_, rfl, o5⟩, f6, ⟨cfS, kfS, fiS, fS, g7, cellS, z1, z2, z3, z4, z5, z6, z7, nf 7 (by omega)⟩⟩
  · match i, hi with
    | 0, _ => exact (Array.getElem?_eq_some_iff.mp gh).1
    | 1, _ => exact f1.lt
    | 2, _ => exact f2.lt
    | 3, _ => exact (Array.getElem?_eq_some_iff.mp h3).1
    | 4, _ => exact f4.lt
    | 5, _ => exact (Array.getElem?_eq_some_iff.mp h5).1
    | 6, _ => exact f6.lt
    | 7, _ => exact (Array.getElem?_eq_some_iff.mp z5).1
    | i + 8, hi => omega
end
section
/-! THE CLAIM OUT OF ONE WALK OF THE LAW'S BODY. Your part is whole_start (and what it stands on); all else here is the same for every law, but numbers. -/
def R_law : String := "PdfRepairLaw"
def lw_P (b : Addr) (xs : List Int32) (args : Array Value) (s : State) : Prop := args = #[.ref b] ∧ s.IntsAt b xs ∧ xs.length ≤ 34 ∧ (Jvm.Cond.and given_1 narrow_1).before args s = true
def lw_Q (_ : Array Value) (s : State) (o : Outcome) (t : State) : Prop := o = .returned (some (.int 1)) ∧ Framed s o t [] 710956 6968972
def lw_Z (below : List Frame) (a : Array Value) (s : State) : State → Prop := fun t => ∃ o, t.status = .running ∧ Ended t below o ∧ lw_Q a s o t
/-- the law's own end, with 1 on the stack, nothing written that was there before, its room as the claim has it -/
theorem lw_ret {p : Program} {l : Launch} {e : Env} {s : State} {m : MethodId} {below : List Frame} {meth : Method} {c : Code} {b : Nat} (hx : p.tables.exec = Jvm.exec) (hb : c.code = code) (hr : meth.sig.returnType = ret) (hlocks : meth.locks = false) {pc : Nat} {H : Heap} {ls : Array Slot} (hdg : decode code pc = .ok (.ireturn, 1)) : W p l e room_1 s m #[Value.ref b] below meth c H [] 710956 6968972 (lw_Z below #[Value.ref b] s) (F0 m pc ls [.int 1]) := by
  intro T hT X
  obtain ⟨fs, hret, hrun, hended, hW, hframe⟩ := X.leave (v := some (.int 1)) (hlocks := hlocks) (fun h => by rw [hr] at h; cases h)
  have hmeth' : T.vm.method? m = some meth := X.method'
  refine ⟨T.setFrames fs, ?_, .returned (some (.int 1)), hrun, hended, rfl, ⟨_, rfl⟩, hW, hframe⟩
  jvm_step X.here [X.here.top, hx, hb, hdg, hmeth', hr, ret, narrow_b1]
  (try refine ⟨rfl, ?_⟩); (try refine ⟨rfl, ?_⟩)
  first | (intro acts; rw [hret _ acts rfl rfl rfl]) | rw [hret _ _ rfl rfl rfl]
  exact Steps.refl _
/-- what holds at the law's entry: the machine, the code, the tables' words (any of lw_tbl by 'hts w (by decide +kernel)'), the script of L ints xs at the cell b, what the Statement gives of the start (any of its parts by flat_of_before) -/
def lw_At (p : Program) (s : State) (m : MethodId) (meth : Method) (c : Code) (b L : Nat) (xs : Nat → Int32) : Prop :=
  p.tables.exec = Jvm.exec ∧ c.code = code ∧ meth.sig.returnType = ret ∧ c.maxLocals = 8 ∧ s.vm.findClass R_law = some m.cls ∧ (∀ w ∈ lw_tbl, w.before #[Value.ref b] s = true) ∧ va_X b L xs s s.heap ∧ b < s.heap.size ∧ meth.locks = false ∧ (Jvm.Cond.and given_1 narrow_1).before #[Value.ref b] s = true
-- ===== YOUR PART BEGINS =====
/-- YOUR PART: from the entry, for every script of at most 34 ints, the law comes to its end with true ('hflags': the launch's flags, for a law that throws: no stack traces) -/
theorem whole_start {p : Program} {e : Env} {s : State} {m : MethodId} {below : List Frame} {meth : Method} {c : Code} (l : Launch) (hflags : l.flags = flags0) {b L : Nat} {xs : Nat → Int32} (hL : L ≤ 34) (C0 : lw_At p s m meth c b L xs) : W p l e room_1 s m #[Value.ref b] below meth c s.heap [] 0 0 (lw_Z below #[Value.ref b] s) (entryFrame m ([Value.ref b] : List Value).toArray 8) := by
  obtain ⟨hx, hb, hr, hml, hown, hts0, hXs, hbl, hlk, hgv⟩ := C0
  have hts : ∀ w ∈ lw_all, w.before #[Value.ref b] s = true := fun w h => hts0 w (lw_all_tbl h)
  obtain ⟨E, hK, hF, hai⟩ := rs_world hts0 hgv
  have hl := lv_entry ([.ref b]) (n := 8) (Nat.le_of_ble_eq_true rfl)
  rw [lg_entry_eq]
  refine law_walk E l b L xs hL hx hb hml hown hts hK hF hXs hbl hai rfl rfl rfl rfl (fun H locs cells slots pc ls hS hdg h1 h2 => ?_) _ hl
  refine va_forget (fun q hq => ?_) ?_
  · rcases hS.2.2 q hq with z | z
    · exact z.elim
    · exact z
  · refine W.widen h1 h2 ?_
    exact lw_ret hx hb hr hlk hdg
-- ===== YOUR PART ENDS =====
set_option maxHeartbeats 4000000 in
theorem lw_walk (l : Launch) (hflags : l.flags = flags0) (b : Addr) (xs : List Int32) : MetFree l x (headSpec (Jvm.Cond.code x code maxLocals ret :: tables_1) room_1) (lw_P b xs) (fun _ _ _ _ _ => True) lw_Q := by
  refine MetFree.of_bodyS (code := code) (maxLocals := maxLocals) (ret := ret) (by decide) ?_ ?_
  · intro args s m h hn
    obtain ⟨meth, c, h1, h2, h3, h4, h5, h6, -, -⟩ := Cond.code_spec hn (atoms_spec (ws := Jvm.Cond.code x code maxLocals ret :: tables_1) h _ List.mem_cons_self)
    exact ⟨meth, c, h1, h2, h3, h4, h5, h6⟩
  · intro p e s m args below meth c s₁ B hml0 hP _
    obtain ⟨rfl, hx, hbd, hgv⟩ := hP
    obtain ⟨scr, harrAt, hlist, hof, hsmall⟩ := hx
    obtain ⟨hcb, hkn, -, -⟩ := State.arrayAt?_spec harrAt
    have hown : s.vm.findClass R_law = some m.cls := findClass_of_methodNamed B.named
    have hts0 : ∀ c ∈ (Jvm.Cond.code x code maxLocals ret :: tables_1), c.before #[Value.ref b] s = true := atoms_spec (ws := Jvm.Cond.code x code maxLocals ret :: tables_1) B.pre
    have hts : ∀ w ∈ lw_tbl, w.before #[Value.ref b] s = true := k2_hts_sels lw_privs (fun w hw => hts0 w (List.mem_cons_of_mem _ hw)) lw_privs_ok
    have hml : c.maxLocals = 8 := B.maxLocals_eq (hts0 _ List.mem_cons_self)
    have X₀ : Stand p l e room_1 s m #[Value.ref b] below meth c s₁ [] 0 0 := Stand.of_body B
    have hh0 : s₁.heap = s.heap := by rw [B.state]; rfl
    have hsz : scr.slots.size = xs.length := by rw [← Array.length_toList, hlist, List.length_map]
    have hval : ∀ j : Nat, j < xs.length → scr.slots[j]? = some (.int (xs.getD j 0)) := fun j hj => by
      rw [← Array.getElem?_toList, hlist]
      simp [hj]
    have hbl : b < s.heap.size := (Array.getElem?_eq_some_iff.mp hcb).1
    have hX : va_X b xs.length (fun j => xs.getD j 0) s s.heap := ⟨scr, hcb, hof, hkn, hsz, hval⟩
    have K : W p l e room_1 s m #[Value.ref b] below meth c s₁.heap [] 0 0 (lw_Z below #[Value.ref b] s) (entryFrame m ([Value.ref b] : List Value).toArray 8) := by
      rw [hh0]
      exact whole_start l hflags hbd ⟨B.exec, B.bytes, B.returns, hml, hown, hts, hX, hbl, B.notSynchronized, hgv⟩
    obtain ⟨t, a1, o, b1, b2, b3⟩ := K s₁ rfl X₀
    exact ⟨t, o, a1, b1, b2, b3⟩
theorem lw_pre_spec {args : Array Value} {s : State} (h : (Jvm.Cond.and given_1 narrow_1).before args s = true) (hr : rest_1_c.before args s = true) : ∃ (b : Addr) (xs : List Int32), lw_P b xs args s := by
  have hs := flat_of_before _ h
  have hq := flat_of_before _ hr
  have hc : (Cond.count 1).before args s = true := hs _ (by decide +kernel)
  have harr : (Cond.arrayOf (.arg 0) .int).before args s = true := hs _ (by decide +kernel)
  have hle : (Cond.le (.length (.arg 0)) (.int 34)).before args s = true := hs _ (by decide +kernel)
  have hlen : (Cond.isInt (.length (.arg 0))).before args s = true := hq _ (by decide +kernel)
  have hall : (Cond.all (.arg 0) (.isInt (.elem (.arg 0) (.index 0)))).before args s = true := hq _ (by decide +kernel)
  obtain ⟨b, xs, hb, hx⟩ := State.ints_of_pre rfl harr hlen hall
  have hsm : xs.length < 2 ^ 31 := hx.choose_spec.2.2.2
  have hev : (Term.length (.arg 0)).eval args s none [] s = some (.int xs.length.toInt32) := hx.length_eval hb
  have hv := Cond.le_ints hev (show (Term.int 34).eval args s none [] s = some (.int 34) from rfl)
  have hd : xs.length.toInt32 ≤ 34 := by
    simpa [Cond.before, Cond.holds, hv] using hle
  have hN : xs.length ≤ 34 := (Int32.ofNat_le_ofNat hsm (by decide)).mp (show Int32.ofNat xs.length ≤ Int32.ofNat 34 from hd)
  exact ⟨b, xs, Cond.one_arg hc (show args[0]? = some (.ref b) from hb), hx, hN, h⟩
theorem lw_comes (l : Launch) (hflags : l.flags = flags0) : Comes l x (Jvm.Cond.code x code maxLocals ret :: tables_1) room_1 (fun tb e args s => Calls_1 tb e args s ∧ rest_1 tb e args s ∧ Pre_1 tb e args s)
    (fun _ _ args s o t => lw_Q args s o t) := by
  intro p e ha hc hk s m args below hf hfit hheap happ hpre
  obtain ⟨b, xs, hP⟩ := lw_pre_spec hpre.2.2 hpre.2.1
  obtain ⟨k, o, h1, h2, h3, hQ⟩ := lw_walk l hflags b xs p e ha hc hk s m args below hf ((Spec.applies_iff_loose hf).mp happ).1 hP trivial
  exact ⟨k, o, h1, h2, h3, hQ⟩
theorem lw_frame {s t : State} {o : Outcome} {args : Array Value} (h : Framed s o t [] 710956 6968972) :
    Framed s o t (fieldLocs frame_1_writes args s ++ arrayLocs frame_1_arrays args s ++ staticLocs frame_1_statics s) 710956 6968972 := h
theorem lw_limb (L : Cond) (hL : ∀ (args : Array Value) (s t : State), L.after args s (.returned (some (.int 1))) t = true) :
    ArmFor flags0 classFile x code maxLocals ret World_1 tables_1 room_1 Calls_1 rest_1 Pre_1
      (fun tb e a s o t => postC L tb e a s o t ∧ Framed s o t (fieldLocs frame_1_writes a s ++ arrayLocs frame_1_arrays a s ++ staticLocs frame_1_statics s) 710956 6968972) := by
  intro l hflags _ _ p e ha hc hk s m args below hf hfit hheap happ hpre
  obtain ⟨k, o, h1, h2, h3, rfl, hF⟩ := lw_comes l hflags p e ha hc hk s m args below hf hfit hheap happ hpre
  exact ⟨k, _, h1, h2, h3, hL args s _, lw_frame hF⟩
theorem i_vc : Claimed_1_1 ∧ Claimed_1_2 := ⟨lw_limb limb_1_1 (fun args s t => by simp [limb_1_1, Cond.after, Cond.holds, Cond.value]), lw_limb limb_1_2 (fun args s t => Cond.after_iff.mpr (by
  first | (rw [show limb_1_2 = Cond.eq .result (.int 1) from rfl, Cond.eq_ints (x := 1) (y := 1) rfl rfl]; simp; done) | (simp [limb_1_2, Cond.value, Term.eval]; done)))⟩
end
