section
-- ===== PART A: goes FIRST, ahead of the names: the tables' words, and 'selects' of the private methods out of them =====
/-- a private method of a class that the tables say can be made, by its rows of tables_1 -/
def lw_okq (q : MethodName × Nat) : Prop := (q.1.cls ≠ "java/lang/invoke/MethodHandle" ∧ q.1.cls ≠ "java/lang/invoke/VarHandle") ∧ Cond.instantiable q.1.cls q.2 ∈ tables_1 ∧ Cond.privateMethod q.1 ∈ tables_1 ∧ Cond.instanceMethod q.1 ∈ tables_1
set_option maxRecDepth 100000
theorem lw_p0 : lw_okq (⟨"java/lang/Throwable", "fillInStackTrace", "(I)Ljava/lang/Throwable;"⟩, 6) := ⟨⟨by decide +kernel, by decide +kernel⟩, List.mem_of_getElem? (i := 85) rfl, List.mem_of_getElem? (i := 83) rfl, List.mem_of_getElem? (i := 84) rfl⟩
def lw_privs_1 : List (MethodName × Nat) := [(⟨"java/lang/Throwable", "fillInStackTrace", "(I)Ljava/lang/Throwable;"⟩, 6)]
theorem lw_r1 : ∀ q ∈ lw_privs_1, lw_okq q := List.forall_mem_cons.mpr ⟨lw_p0, fun _ h => absurd h List.not_mem_nil⟩
def lw_privs : List (MethodName × Nat) := lw_privs_1
def lw_tbl : List Cond := k2_sels lw_privs ++ tables_1
theorem lw_privs_ok : ∀ q ∈ lw_privs, lw_okq q := lw_r1
-- ===== ONE list of words for every method: the tables' words that hold all through a run =====
def lw_all : List Cond := lw_tbl.filter goodWord
/-- a word of the tables by its place: claim/WORDS.tsv -/
theorem lw_w {w : Cond} (i : Nat) (h : lw_tbl[i]? = some w) (g : goodWord w = true) : w ∈ lw_all := List.mem_filter.mpr ⟨List.mem_of_getElem? h, g⟩
theorem lw_all_tbl {w : Cond} (h : w ∈ lw_all) : w ∈ lw_tbl := (List.mem_filter.mp h).1
theorem lw_self : GoodIn lw_all lw_all := fun w h => ⟨h, good_of_word (List.mem_filter.mp h).2⟩
/-- a class's field words, by their places -/
theorem lw_in (ws : List Cond) (ps : List Nat) (hp : ws = ps.filterMap (fun i => lw_tbl[i]?)) (hg : ws.all goodWord = true) : ∀ w ∈ ws, w ∈ lw_all := by
  intro w h
  have h1 := List.all_eq_true.mp hg w h
  rw [hp] at h
  obtain ⟨i, -, hi⟩ := List.mem_filterMap.mp h
  exact lw_w i hi h1
/-- the words of a contract for the method y with code b, L locals, answer r -/
abbrev ws_ (y : MethodName) (b : ByteArray) (L : Nat) (r : Option FieldType) : List Cond := Cond.code y b L r :: lw_all
theorem lw_meth {y : MethodName} {b : ByteArray} {L : Nat} {r : Option FieldType} (h : Cond.code y b L r ∈ lw_all) : GoodIn lw_all (ws_ y b L r) := by
  intro w hw
  rcases List.mem_cons.mp hw with e | e
  · rw [e]
    exact lw_self _ h
  · exact lw_self _ e
theorem lw_app {a c : List Cond} (ha : ∀ w ∈ a, w ∈ lw_all) (hc : GoodIn lw_all c) : GoodIn lw_all (a ++ c) := by
  intro w hw
  rcases List.mem_append.mp hw with e | e
  · exact lw_self w (ha w e)
  · exact hc w e
/-- what a call through an object asks: cwV n hts (lw_V ..) -/
theorem lw_V {own : String} {idx : Nat} {C : String} {y : MethodName} {b : ByteArray} {L : Nat} {r : Option FieldType} (h1 : Cond.methodLink own idx y ∈ lw_all) (h2 : Cond.instanceMethod y ∈ lw_all) (h3 : Cond.selects C y y ∈ lw_all) (h4 : Cond.initialized C ∈ lw_all) (h5 : Cond.code y b L r ∈ lw_all) : GoodIn lw_all (wsV own idx C y (ws_ y b L r)) := by
  refine lw_app ?_ (lw_meth h5)
  intro w hw
  simp only [List.mem_cons, List.not_mem_nil, or_false] at hw
  rcases hw with e | e | e | e
  · rw [e]; exact h1
  · rw [e]; exact h2
  · rw [e]; exact h3
  · rw [e]; exact h4
/-- what a static call asks: va_cwS n hts (lw_S ..) -/
theorem lw_S {own : String} {idx : Nat} {y : MethodName} {b : ByteArray} {L : Nat} {r : Option FieldType} (h1 : Cond.methodLink own idx y ∈ lw_all) (h2 : Cond.static y ∈ lw_all) (h3 : Cond.initialized y.cls ∈ lw_all) (h4 : Cond.code y b L r ∈ lw_all) : GoodIn lw_all (va_wsS own idx y (ws_ y b L r)) := by
  refine lw_app ?_ (lw_meth h4)
  intro w hw
  simp only [List.mem_cons, List.not_mem_nil, or_false] at hw
  rcases hw with e | e | e
  · rw [e]; exact h1
  · rw [e]; exact h2
  · rw [e]; exact h3
/-- the words of a contract for a method WITH HANDLERS (hh: its table) -/
abbrev wsW_ (y : MethodName) (b : ByteArray) (L : Nat) (r : Option FieldType) (hh : List (Nat × Nat × Nat × Nat)) : List Cond := Cond.codeWith y b L r hh :: lw_all
theorem lw_methW {y : MethodName} {b : ByteArray} {L : Nat} {r : Option FieldType} {hh : List (Nat × Nat × Nat × Nat)} (h : Cond.codeWith y b L r hh ∈ lw_all) : GoodIn lw_all (wsW_ y b L r hh) := by
  intro w hw
  rcases List.mem_cons.mp hw with e | e
  · rw [e]
    exact lw_self _ h
  · exact lw_self _ e
/-- any list of words by their places (lw_in), good -/
theorem lw_good {ws : List Cond} (h : ∀ w ∈ ws, w ∈ lw_all) : GoodIn lw_all ws := fun w hw => lw_self w (h w hw)
/-- what a call of a method with handlers asks: vx_cwVW n hts (lw_VW ..), vx_cwSW n hts (lw_SW ..) -/
theorem lw_VW {own : String} {idx : Nat} {C : String} {y : MethodName} {b : ByteArray} {L : Nat} {r : Option FieldType} {hh : List (Nat × Nat × Nat × Nat)} (h1 : Cond.methodLink own idx y ∈ lw_all) (h2 : Cond.instanceMethod y ∈ lw_all) (h3 : Cond.selects C y y ∈ lw_all) (h4 : Cond.initialized C ∈ lw_all) (h5 : Cond.codeWith y b L r hh ∈ lw_all) : GoodIn lw_all (wsV own idx C y (wsW_ y b L r hh)) := by
  refine lw_app ?_ (lw_methW h5)
  intro w hw
  simp only [List.mem_cons, List.not_mem_nil, or_false] at hw
  rcases hw with e | e | e | e
  · rw [e]; exact h1
  · rw [e]; exact h2
  · rw [e]; exact h3
  · rw [e]; exact h4
theorem lw_SW {own : String} {idx : Nat} {y : MethodName} {b : ByteArray} {L : Nat} {r : Option FieldType} {hh : List (Nat × Nat × Nat × Nat)} (h1 : Cond.methodLink own idx y ∈ lw_all) (h2 : Cond.static y ∈ lw_all) (h3 : Cond.initialized y.cls ∈ lw_all) (h4 : Cond.codeWith y b L r hh ∈ lw_all) : GoodIn lw_all (va_wsS own idx y (wsW_ y b L r hh)) := by
  refine lw_app ?_ (lw_methW h4)
  intro w hw
  simp only [List.mem_cons, List.not_mem_nil, or_false] at hw
  rcases hw with e | e | e
  · rw [e]; exact h1
  · rw [e]; exact h2
  · rw [e]; exact h3
/-- a word by its place in its run of the tables -/
theorem lw_at {r : List Cond} (hr : ∀ w ∈ r, w ∈ lw_tbl) {w : Cond} (i : Nat) (h : r[i]? = some w) : w ∈ lw_tbl := hr w (List.mem_of_getElem? h)
theorem lw_g {w : Cond} (h : w ∈ lw_tbl) (g : goodWord w = true) : w ∈ lw_all := List.mem_filter.mpr ⟨h, g⟩
theorem lw_ms : ∀ w ∈ k2_sels lw_privs, w ∈ lw_tbl := fun w h => show w ∈ k2_sels lw_privs ++ tables_1 from List.mem_append_left _ h
theorem lw_m0 : ∀ w ∈ tables_1, w ∈ lw_tbl := fun w h => show w ∈ k2_sels lw_privs ++ tables_1 from List.mem_append_right (k2_sels lw_privs) h
theorem qs0 : (Cond.selects "java/lang/Throwable" ⟨"java/lang/Throwable", "fillInStackTrace", "(I)Ljava/lang/Throwable;"⟩ ⟨"java/lang/Throwable", "fillInStackTrace", "(I)Ljava/lang/Throwable;"⟩) ∈ lw_all := lw_g (lw_at lw_ms 0 rfl) rfl
/-! DECODE ROWS BY BYTES: one lemma an opcode; a method's code is cut into short pieces once, and a row reads its own piece alone. -/
set_option maxRecDepth 100000
/-- the code has just these bytes from pc on -/
def DkAt (code : ByteArray) (pc : Nat) (bs : List UInt8) : Prop := ∀ (j : Nat) (b : UInt8), bs[j]? = some b → code.data.toList[pc + j]? = some b
/-- the piece W has the bytes bs from its place j on -/
def dkIn (W : List UInt8) (j : Nat) (bs : List UInt8) : Bool := decide ((W.drop j).take bs.length = bs)
theorem dk_seg {l W T : List UInt8} {o o2 : Nat} (h : l.drop o = W ++ T) (n : Nat) (hn : W.length = n) (ho : o + n = o2) : l.drop o2 = T := by
  subst ho
  rw [← List.drop_drop, h, List.drop_left' hn]
theorem dk_at {code : ByteArray} {W T bs : List UInt8} {o pc : Nat} (h : code.data.toList.drop o = W ++ T) (j : Nat) (hp : o + j = pc) (hw : dkIn W j bs = true) : DkAt code pc bs := by
  subst hp
  intro i b e
  have h1 := of_decide_eq_true hw
  have h2 : i < bs.length := (List.getElem?_eq_some_iff.mp e).1
  have h3 : W[j + i]? = some b := by
    rw [← h1, List.getElem?_take, if_pos h2, List.getElem?_drop] at e
    exact e
  have h4 : j + i < W.length := (List.getElem?_eq_some_iff.mp h3).1
  have h5 : (code.data.toList.drop o)[j + i]? = some b := by
    rw [h, List.getElem?_append_left h4]
    exact h3
  rw [List.getElem?_drop, ← Nat.add_assoc] at h5
  exact h5
theorem dk_u1 {A : ByteArray} {p : Nat} {b : UInt8} (h : A.data.toList[p]? = some b) : (Reader.u1 : Reader DecodeError Nat) A p = .ok (b.toNat, p + 1) := by
  obtain ⟨h1, h2⟩ := List.getElem?_eq_some_iff.mp h
  have h3 : p < A.size := by simpa using h1
  have h4 : A[p]'h3 = b := h2
  have e : (Reader.u1 : Reader DecodeError Nat) A p = (if h : p < A.size then .ok (A[p].toNat, p + 1) else .error (HasTruncated.truncated p)) := by
    show (do if h : p < A.size then do set (p + 1); Pure.pure A[p].toNat else MonadExcept.throw (HasTruncated.truncated p) : Reader DecodeError Nat) A p = _
    by_cases hi : p < A.size
    · rw [dif_pos hi, dif_pos hi]; rfl
    · rw [dif_neg hi, dif_neg hi]; rfl
  rw [e, dif_pos h3, h4]
theorem dk_bind {α β : Type} {r : Reader DecodeError α} {f : α → Reader DecodeError β} {A : ByteArray} {p s : Nat} {a : α} (h : r A p = .ok (a, s)) : (r >>= f) A p = f a A s := by
  show (do let (a, s) ← r A p; f a A s : Except DecodeError (β × Nat)) = _
  rw [h]
  rfl
theorem dk_map {α β : Type} {r : Reader DecodeError α} {g : α → β} {A : ByteArray} {p s : Nat} {a : α} (h : r A p = .ok (a, s)) : (g <$> r) A p = .ok (g a, s) := by
  show (do let (a, s) ← r A p; .ok (g a, s) : Except DecodeError (β × Nat)) = _
  rw [h]
  rfl
theorem dk_u2 {A : ByteArray} {p : Nat} {a b : UInt8} (h : A.data.toList[p]? = some a) (h2 : A.data.toList[p + 1]? = some b) : (Reader.u2 : Reader DecodeError Nat) A p = .ok (a.toNat * 256 + b.toNat, p + 2) := by
  show (Reader.u1 >>= fun hi => Reader.u1 >>= fun lo => Pure.pure (hi * 256 + lo) : Reader DecodeError Nat) A p = _
  rw [dk_bind (dk_u1 h), dk_bind (dk_u1 h2)]
  rfl
theorem dk_of {code : ByteArray} {pc n : Nat} {i : Instr} (h : Decoder.instr pc code pc = .ok (i, pc + n)) : decode code pc = .ok (i, n) := by
  have e : decode code pc = (match Decoder.instr pc code pc with | .error x => .error x | .ok (j, s) => .ok (j, s - pc)) := by
    show (do let (j, s) ← Decoder.instr pc code pc; Pure.pure (j, s - pc) : Except DecodeError (Instr × Nat)) = _
    cases Decoder.instr pc code pc <;> rfl
  rw [e, h]
  show Except.ok (i, pc + n - pc) = _
  rw [Nat.add_sub_cancel_left]
theorem dk_2 {code : ByteArray} {pc : Nat} (h : DkAt code pc [2]) : decode code pc = .ok (.iconst (-1), 1) := dk_of ((dk_bind (dk_u1 (h 0 _ rfl))).trans rfl)
theorem dk_3 {code : ByteArray} {pc : Nat} (h : DkAt code pc [3]) : decode code pc = .ok (.iconst 0, 1) := dk_of ((dk_bind (dk_u1 (h 0 _ rfl))).trans rfl)
theorem dk_4 {code : ByteArray} {pc : Nat} (h : DkAt code pc [4]) : decode code pc = .ok (.iconst 1, 1) := dk_of ((dk_bind (dk_u1 (h 0 _ rfl))).trans rfl)
theorem dk_5 {code : ByteArray} {pc : Nat} (h : DkAt code pc [5]) : decode code pc = .ok (.iconst 2, 1) := dk_of ((dk_bind (dk_u1 (h 0 _ rfl))).trans rfl)
theorem dk_6 {code : ByteArray} {pc : Nat} (h : DkAt code pc [6]) : decode code pc = .ok (.iconst 3, 1) := dk_of ((dk_bind (dk_u1 (h 0 _ rfl))).trans rfl)
theorem dk_7 {code : ByteArray} {pc : Nat} (h : DkAt code pc [7]) : decode code pc = .ok (.iconst 4, 1) := dk_of ((dk_bind (dk_u1 (h 0 _ rfl))).trans rfl)
theorem dk_9 {code : ByteArray} {pc : Nat} (h : DkAt code pc [9]) : decode code pc = .ok (.lconst 0, 1) := dk_of ((dk_bind (dk_u1 (h 0 _ rfl))).trans rfl)
theorem dk_10 {code : ByteArray} {pc : Nat} (h : DkAt code pc [10]) : decode code pc = .ok (.lconst 1, 1) := dk_of ((dk_bind (dk_u1 (h 0 _ rfl))).trans rfl)
theorem dk_16 {code : ByteArray} {pc : Nat} (a : UInt8) (h : DkAt code pc [16, a]) : decode code pc = .ok (.bipush (Reader.signed 8 a.toNat), 2) := dk_of ((dk_bind (dk_u1 (h 0 _ rfl))).trans ((dk_bind (dk_map (dk_u1 (h 1 _ rfl)))).trans rfl))
theorem dk_17 {code : ByteArray} {pc : Nat} (a b : UInt8) (h : DkAt code pc [17, a, b]) : decode code pc = .ok (.sipush (Reader.signed 16 (a.toNat * 256 + b.toNat)), 3) := dk_of ((dk_bind (dk_u1 (h 0 _ rfl))).trans ((dk_bind (dk_map (dk_u2 (h 1 _ rfl) (h 2 _ rfl)))).trans rfl))
theorem dk_18 {code : ByteArray} {pc : Nat} (a : UInt8) (h : DkAt code pc [18, a]) : decode code pc = .ok (.ldc a.toNat, 2) := dk_of ((dk_bind (dk_u1 (h 0 _ rfl))).trans ((dk_bind (dk_u1 (h 1 _ rfl))).trans rfl))
theorem dk_19 {code : ByteArray} {pc : Nat} (a b : UInt8) (h : DkAt code pc [19, a, b]) : decode code pc = .ok (.ldc_w (a.toNat * 256 + b.toNat), 3) := dk_of ((dk_bind (dk_u1 (h 0 _ rfl))).trans ((dk_bind (dk_u2 (h 1 _ rfl) (h 2 _ rfl))).trans rfl))
theorem dk_20 {code : ByteArray} {pc : Nat} (a b : UInt8) (h : DkAt code pc [20, a, b]) : decode code pc = .ok (.ldc2_w (a.toNat * 256 + b.toNat), 3) := dk_of ((dk_bind (dk_u1 (h 0 _ rfl))).trans ((dk_bind (dk_u2 (h 1 _ rfl) (h 2 _ rfl))).trans rfl))
theorem dk_21 {code : ByteArray} {pc : Nat} (a : UInt8) (h : DkAt code pc [21, a]) : decode code pc = .ok (.iload a.toNat, 2) := dk_of ((dk_bind (dk_u1 (h 0 _ rfl))).trans ((dk_bind (dk_u1 (h 1 _ rfl))).trans rfl))
theorem dk_22 {code : ByteArray} {pc : Nat} (a : UInt8) (h : DkAt code pc [22, a]) : decode code pc = .ok (.lload a.toNat, 2) := dk_of ((dk_bind (dk_u1 (h 0 _ rfl))).trans ((dk_bind (dk_u1 (h 1 _ rfl))).trans rfl))
theorem dk_26 {code : ByteArray} {pc : Nat} (h : DkAt code pc [26]) : decode code pc = .ok (.iload_n 0, 1) := dk_of ((dk_bind (dk_u1 (h 0 _ rfl))).trans rfl)
theorem dk_27 {code : ByteArray} {pc : Nat} (h : DkAt code pc [27]) : decode code pc = .ok (.iload_n 1, 1) := dk_of ((dk_bind (dk_u1 (h 0 _ rfl))).trans rfl)
theorem dk_28 {code : ByteArray} {pc : Nat} (h : DkAt code pc [28]) : decode code pc = .ok (.iload_n 2, 1) := dk_of ((dk_bind (dk_u1 (h 0 _ rfl))).trans rfl)
theorem dk_29 {code : ByteArray} {pc : Nat} (h : DkAt code pc [29]) : decode code pc = .ok (.iload_n 3, 1) := dk_of ((dk_bind (dk_u1 (h 0 _ rfl))).trans rfl)
theorem dk_30 {code : ByteArray} {pc : Nat} (h : DkAt code pc [30]) : decode code pc = .ok (.lload_n 0, 1) := dk_of ((dk_bind (dk_u1 (h 0 _ rfl))).trans rfl)
theorem dk_31 {code : ByteArray} {pc : Nat} (h : DkAt code pc [31]) : decode code pc = .ok (.lload_n 1, 1) := dk_of ((dk_bind (dk_u1 (h 0 _ rfl))).trans rfl)
theorem dk_32 {code : ByteArray} {pc : Nat} (h : DkAt code pc [32]) : decode code pc = .ok (.lload_n 2, 1) := dk_of ((dk_bind (dk_u1 (h 0 _ rfl))).trans rfl)
theorem dk_42 {code : ByteArray} {pc : Nat} (h : DkAt code pc [42]) : decode code pc = .ok (.aload_n 0, 1) := dk_of ((dk_bind (dk_u1 (h 0 _ rfl))).trans rfl)
theorem dk_43 {code : ByteArray} {pc : Nat} (h : DkAt code pc [43]) : decode code pc = .ok (.aload_n 1, 1) := dk_of ((dk_bind (dk_u1 (h 0 _ rfl))).trans rfl)
theorem dk_44 {code : ByteArray} {pc : Nat} (h : DkAt code pc [44]) : decode code pc = .ok (.aload_n 2, 1) := dk_of ((dk_bind (dk_u1 (h 0 _ rfl))).trans rfl)
theorem dk_46 {code : ByteArray} {pc : Nat} (h : DkAt code pc [46]) : decode code pc = .ok (.iaload, 1) := dk_of ((dk_bind (dk_u1 (h 0 _ rfl))).trans rfl)
theorem dk_47 {code : ByteArray} {pc : Nat} (h : DkAt code pc [47]) : decode code pc = .ok (.laload, 1) := dk_of ((dk_bind (dk_u1 (h 0 _ rfl))).trans rfl)
theorem dk_50 {code : ByteArray} {pc : Nat} (h : DkAt code pc [50]) : decode code pc = .ok (.aaload, 1) := dk_of ((dk_bind (dk_u1 (h 0 _ rfl))).trans rfl)
theorem dk_54 {code : ByteArray} {pc : Nat} (a : UInt8) (h : DkAt code pc [54, a]) : decode code pc = .ok (.istore a.toNat, 2) := dk_of ((dk_bind (dk_u1 (h 0 _ rfl))).trans ((dk_bind (dk_u1 (h 1 _ rfl))).trans rfl))
theorem dk_55 {code : ByteArray} {pc : Nat} (a : UInt8) (h : DkAt code pc [55, a]) : decode code pc = .ok (.lstore a.toNat, 2) := dk_of ((dk_bind (dk_u1 (h 0 _ rfl))).trans ((dk_bind (dk_u1 (h 1 _ rfl))).trans rfl))
theorem dk_59 {code : ByteArray} {pc : Nat} (h : DkAt code pc [59]) : decode code pc = .ok (.istore_n 0, 1) := dk_of ((dk_bind (dk_u1 (h 0 _ rfl))).trans rfl)
theorem dk_60 {code : ByteArray} {pc : Nat} (h : DkAt code pc [60]) : decode code pc = .ok (.istore_n 1, 1) := dk_of ((dk_bind (dk_u1 (h 0 _ rfl))).trans rfl)
theorem dk_61 {code : ByteArray} {pc : Nat} (h : DkAt code pc [61]) : decode code pc = .ok (.istore_n 2, 1) := dk_of ((dk_bind (dk_u1 (h 0 _ rfl))).trans rfl)
theorem dk_62 {code : ByteArray} {pc : Nat} (h : DkAt code pc [62]) : decode code pc = .ok (.istore_n 3, 1) := dk_of ((dk_bind (dk_u1 (h 0 _ rfl))).trans rfl)
theorem dk_63 {code : ByteArray} {pc : Nat} (h : DkAt code pc [63]) : decode code pc = .ok (.lstore_n 0, 1) := dk_of ((dk_bind (dk_u1 (h 0 _ rfl))).trans rfl)
theorem dk_64 {code : ByteArray} {pc : Nat} (h : DkAt code pc [64]) : decode code pc = .ok (.lstore_n 1, 1) := dk_of ((dk_bind (dk_u1 (h 0 _ rfl))).trans rfl)
theorem dk_76 {code : ByteArray} {pc : Nat} (h : DkAt code pc [76]) : decode code pc = .ok (.astore_n 1, 1) := dk_of ((dk_bind (dk_u1 (h 0 _ rfl))).trans rfl)
theorem dk_77 {code : ByteArray} {pc : Nat} (h : DkAt code pc [77]) : decode code pc = .ok (.astore_n 2, 1) := dk_of ((dk_bind (dk_u1 (h 0 _ rfl))).trans rfl)
theorem dk_80 {code : ByteArray} {pc : Nat} (h : DkAt code pc [80]) : decode code pc = .ok (.lastore, 1) := dk_of ((dk_bind (dk_u1 (h 0 _ rfl))).trans rfl)
theorem dk_87 {code : ByteArray} {pc : Nat} (h : DkAt code pc [87]) : decode code pc = .ok (.pop, 1) := dk_of ((dk_bind (dk_u1 (h 0 _ rfl))).trans rfl)
theorem dk_89 {code : ByteArray} {pc : Nat} (h : DkAt code pc [89]) : decode code pc = .ok (.dup, 1) := dk_of ((dk_bind (dk_u1 (h 0 _ rfl))).trans rfl)
theorem dk_90 {code : ByteArray} {pc : Nat} (h : DkAt code pc [90]) : decode code pc = .ok (.dup_x1, 1) := dk_of ((dk_bind (dk_u1 (h 0 _ rfl))).trans rfl)
theorem dk_92 {code : ByteArray} {pc : Nat} (h : DkAt code pc [92]) : decode code pc = .ok (.dup2, 1) := dk_of ((dk_bind (dk_u1 (h 0 _ rfl))).trans rfl)
theorem dk_96 {code : ByteArray} {pc : Nat} (h : DkAt code pc [96]) : decode code pc = .ok (.iadd, 1) := dk_of ((dk_bind (dk_u1 (h 0 _ rfl))).trans rfl)
theorem dk_97 {code : ByteArray} {pc : Nat} (h : DkAt code pc [97]) : decode code pc = .ok (.ladd, 1) := dk_of ((dk_bind (dk_u1 (h 0 _ rfl))).trans rfl)
theorem dk_100 {code : ByteArray} {pc : Nat} (h : DkAt code pc [100]) : decode code pc = .ok (.isub, 1) := dk_of ((dk_bind (dk_u1 (h 0 _ rfl))).trans rfl)
theorem dk_101 {code : ByteArray} {pc : Nat} (h : DkAt code pc [101]) : decode code pc = .ok (.lsub, 1) := dk_of ((dk_bind (dk_u1 (h 0 _ rfl))).trans rfl)
theorem dk_104 {code : ByteArray} {pc : Nat} (h : DkAt code pc [104]) : decode code pc = .ok (.imul, 1) := dk_of ((dk_bind (dk_u1 (h 0 _ rfl))).trans rfl)
theorem dk_105 {code : ByteArray} {pc : Nat} (h : DkAt code pc [105]) : decode code pc = .ok (.lmul, 1) := dk_of ((dk_bind (dk_u1 (h 0 _ rfl))).trans rfl)
theorem dk_112 {code : ByteArray} {pc : Nat} (h : DkAt code pc [112]) : decode code pc = .ok (.irem, 1) := dk_of ((dk_bind (dk_u1 (h 0 _ rfl))).trans rfl)
theorem dk_116 {code : ByteArray} {pc : Nat} (h : DkAt code pc [116]) : decode code pc = .ok (.ineg, 1) := dk_of ((dk_bind (dk_u1 (h 0 _ rfl))).trans rfl)
theorem dk_120 {code : ByteArray} {pc : Nat} (h : DkAt code pc [120]) : decode code pc = .ok (.ishl, 1) := dk_of ((dk_bind (dk_u1 (h 0 _ rfl))).trans rfl)
theorem dk_121 {code : ByteArray} {pc : Nat} (h : DkAt code pc [121]) : decode code pc = .ok (.lshl, 1) := dk_of ((dk_bind (dk_u1 (h 0 _ rfl))).trans rfl)
theorem dk_124 {code : ByteArray} {pc : Nat} (h : DkAt code pc [124]) : decode code pc = .ok (.iushr, 1) := dk_of ((dk_bind (dk_u1 (h 0 _ rfl))).trans rfl)
theorem dk_125 {code : ByteArray} {pc : Nat} (h : DkAt code pc [125]) : decode code pc = .ok (.lushr, 1) := dk_of ((dk_bind (dk_u1 (h 0 _ rfl))).trans rfl)
theorem dk_126 {code : ByteArray} {pc : Nat} (h : DkAt code pc [126]) : decode code pc = .ok (.iand, 1) := dk_of ((dk_bind (dk_u1 (h 0 _ rfl))).trans rfl)
theorem dk_127 {code : ByteArray} {pc : Nat} (h : DkAt code pc [127]) : decode code pc = .ok (.land, 1) := dk_of ((dk_bind (dk_u1 (h 0 _ rfl))).trans rfl)
theorem dk_128 {code : ByteArray} {pc : Nat} (h : DkAt code pc [128]) : decode code pc = .ok (.ior, 1) := dk_of ((dk_bind (dk_u1 (h 0 _ rfl))).trans rfl)
theorem dk_130 {code : ByteArray} {pc : Nat} (h : DkAt code pc [130]) : decode code pc = .ok (.ixor, 1) := dk_of ((dk_bind (dk_u1 (h 0 _ rfl))).trans rfl)
theorem dk_132 {code : ByteArray} {pc : Nat} (a b : UInt8) (h : DkAt code pc [132, a, b]) : decode code pc = .ok (.iinc a.toNat (Reader.signed 8 b.toNat), 3) := dk_of ((dk_bind (dk_u1 (h 0 _ rfl))).trans ((dk_bind (dk_u1 (h 1 _ rfl))).trans ((dk_bind (dk_map (dk_u1 (h 2 _ rfl)))).trans rfl)))
theorem dk_133 {code : ByteArray} {pc : Nat} (h : DkAt code pc [133]) : decode code pc = .ok (.i2l, 1) := dk_of ((dk_bind (dk_u1 (h 0 _ rfl))).trans rfl)
theorem dk_136 {code : ByteArray} {pc : Nat} (h : DkAt code pc [136]) : decode code pc = .ok (.l2i, 1) := dk_of ((dk_bind (dk_u1 (h 0 _ rfl))).trans rfl)
theorem dk_148 {code : ByteArray} {pc : Nat} (h : DkAt code pc [148]) : decode code pc = .ok (.lcmp, 1) := dk_of ((dk_bind (dk_u1 (h 0 _ rfl))).trans rfl)
theorem dk_153 {code : ByteArray} {pc : Nat} (a b : UInt8) (h : DkAt code pc [153, a, b]) : decode code pc = .ok (.ifCond .eq (Reader.signed 16 (a.toNat * 256 + b.toNat)), 3) := dk_of ((dk_bind (dk_u1 (h 0 _ rfl))).trans ((dk_bind (dk_map (dk_u2 (h 1 _ rfl) (h 2 _ rfl)))).trans rfl))
theorem dk_154 {code : ByteArray} {pc : Nat} (a b : UInt8) (h : DkAt code pc [154, a, b]) : decode code pc = .ok (.ifCond .ne (Reader.signed 16 (a.toNat * 256 + b.toNat)), 3) := dk_of ((dk_bind (dk_u1 (h 0 _ rfl))).trans ((dk_bind (dk_map (dk_u2 (h 1 _ rfl) (h 2 _ rfl)))).trans rfl))
theorem dk_155 {code : ByteArray} {pc : Nat} (a b : UInt8) (h : DkAt code pc [155, a, b]) : decode code pc = .ok (.ifCond .lt (Reader.signed 16 (a.toNat * 256 + b.toNat)), 3) := dk_of ((dk_bind (dk_u1 (h 0 _ rfl))).trans ((dk_bind (dk_map (dk_u2 (h 1 _ rfl) (h 2 _ rfl)))).trans rfl))
theorem dk_157 {code : ByteArray} {pc : Nat} (a b : UInt8) (h : DkAt code pc [157, a, b]) : decode code pc = .ok (.ifCond .gt (Reader.signed 16 (a.toNat * 256 + b.toNat)), 3) := dk_of ((dk_bind (dk_u1 (h 0 _ rfl))).trans ((dk_bind (dk_map (dk_u2 (h 1 _ rfl) (h 2 _ rfl)))).trans rfl))
theorem dk_158 {code : ByteArray} {pc : Nat} (a b : UInt8) (h : DkAt code pc [158, a, b]) : decode code pc = .ok (.ifCond .le (Reader.signed 16 (a.toNat * 256 + b.toNat)), 3) := dk_of ((dk_bind (dk_u1 (h 0 _ rfl))).trans ((dk_bind (dk_map (dk_u2 (h 1 _ rfl) (h 2 _ rfl)))).trans rfl))
theorem dk_159 {code : ByteArray} {pc : Nat} (a b : UInt8) (h : DkAt code pc [159, a, b]) : decode code pc = .ok (.if_icmp .eq (Reader.signed 16 (a.toNat * 256 + b.toNat)), 3) := dk_of ((dk_bind (dk_u1 (h 0 _ rfl))).trans ((dk_bind (dk_map (dk_u2 (h 1 _ rfl) (h 2 _ rfl)))).trans rfl))
theorem dk_160 {code : ByteArray} {pc : Nat} (a b : UInt8) (h : DkAt code pc [160, a, b]) : decode code pc = .ok (.if_icmp .ne (Reader.signed 16 (a.toNat * 256 + b.toNat)), 3) := dk_of ((dk_bind (dk_u1 (h 0 _ rfl))).trans ((dk_bind (dk_map (dk_u2 (h 1 _ rfl) (h 2 _ rfl)))).trans rfl))
theorem dk_161 {code : ByteArray} {pc : Nat} (a b : UInt8) (h : DkAt code pc [161, a, b]) : decode code pc = .ok (.if_icmp .lt (Reader.signed 16 (a.toNat * 256 + b.toNat)), 3) := dk_of ((dk_bind (dk_u1 (h 0 _ rfl))).trans ((dk_bind (dk_map (dk_u2 (h 1 _ rfl) (h 2 _ rfl)))).trans rfl))
theorem dk_162 {code : ByteArray} {pc : Nat} (a b : UInt8) (h : DkAt code pc [162, a, b]) : decode code pc = .ok (.if_icmp .ge (Reader.signed 16 (a.toNat * 256 + b.toNat)), 3) := dk_of ((dk_bind (dk_u1 (h 0 _ rfl))).trans ((dk_bind (dk_map (dk_u2 (h 1 _ rfl) (h 2 _ rfl)))).trans rfl))
theorem dk_163 {code : ByteArray} {pc : Nat} (a b : UInt8) (h : DkAt code pc [163, a, b]) : decode code pc = .ok (.if_icmp .gt (Reader.signed 16 (a.toNat * 256 + b.toNat)), 3) := dk_of ((dk_bind (dk_u1 (h 0 _ rfl))).trans ((dk_bind (dk_map (dk_u2 (h 1 _ rfl) (h 2 _ rfl)))).trans rfl))
theorem dk_164 {code : ByteArray} {pc : Nat} (a b : UInt8) (h : DkAt code pc [164, a, b]) : decode code pc = .ok (.if_icmp .le (Reader.signed 16 (a.toNat * 256 + b.toNat)), 3) := dk_of ((dk_bind (dk_u1 (h 0 _ rfl))).trans ((dk_bind (dk_map (dk_u2 (h 1 _ rfl) (h 2 _ rfl)))).trans rfl))
theorem dk_167 {code : ByteArray} {pc : Nat} (a b : UInt8) (h : DkAt code pc [167, a, b]) : decode code pc = .ok (.goto (Reader.signed 16 (a.toNat * 256 + b.toNat)), 3) := dk_of ((dk_bind (dk_u1 (h 0 _ rfl))).trans ((dk_bind (dk_map (dk_u2 (h 1 _ rfl) (h 2 _ rfl)))).trans rfl))
theorem dk_172 {code : ByteArray} {pc : Nat} (h : DkAt code pc [172]) : decode code pc = .ok (.ireturn, 1) := dk_of ((dk_bind (dk_u1 (h 0 _ rfl))).trans rfl)
theorem dk_173 {code : ByteArray} {pc : Nat} (h : DkAt code pc [173]) : decode code pc = .ok (.lreturn, 1) := dk_of ((dk_bind (dk_u1 (h 0 _ rfl))).trans rfl)
theorem dk_176 {code : ByteArray} {pc : Nat} (h : DkAt code pc [176]) : decode code pc = .ok (.areturn, 1) := dk_of ((dk_bind (dk_u1 (h 0 _ rfl))).trans rfl)
theorem dk_177 {code : ByteArray} {pc : Nat} (h : DkAt code pc [177]) : decode code pc = .ok (.return_, 1) := dk_of ((dk_bind (dk_u1 (h 0 _ rfl))).trans rfl)
theorem dk_178 {code : ByteArray} {pc : Nat} (a b : UInt8) (h : DkAt code pc [178, a, b]) : decode code pc = .ok (.getstatic (a.toNat * 256 + b.toNat), 3) := dk_of ((dk_bind (dk_u1 (h 0 _ rfl))).trans ((dk_bind (dk_u2 (h 1 _ rfl) (h 2 _ rfl))).trans rfl))
theorem dk_180 {code : ByteArray} {pc : Nat} (a b : UInt8) (h : DkAt code pc [180, a, b]) : decode code pc = .ok (.getfield (a.toNat * 256 + b.toNat), 3) := dk_of ((dk_bind (dk_u1 (h 0 _ rfl))).trans ((dk_bind (dk_u2 (h 1 _ rfl) (h 2 _ rfl))).trans rfl))
theorem dk_181 {code : ByteArray} {pc : Nat} (a b : UInt8) (h : DkAt code pc [181, a, b]) : decode code pc = .ok (.putfield (a.toNat * 256 + b.toNat), 3) := dk_of ((dk_bind (dk_u1 (h 0 _ rfl))).trans ((dk_bind (dk_u2 (h 1 _ rfl) (h 2 _ rfl))).trans rfl))
theorem dk_182 {code : ByteArray} {pc : Nat} (a b : UInt8) (h : DkAt code pc [182, a, b]) : decode code pc = .ok (.invokevirtual (a.toNat * 256 + b.toNat), 3) := dk_of ((dk_bind (dk_u1 (h 0 _ rfl))).trans ((dk_bind (dk_u2 (h 1 _ rfl) (h 2 _ rfl))).trans rfl))
theorem dk_183 {code : ByteArray} {pc : Nat} (a b : UInt8) (h : DkAt code pc [183, a, b]) : decode code pc = .ok (.invokespecial (a.toNat * 256 + b.toNat), 3) := dk_of ((dk_bind (dk_u1 (h 0 _ rfl))).trans ((dk_bind (dk_u2 (h 1 _ rfl) (h 2 _ rfl))).trans rfl))
theorem dk_184 {code : ByteArray} {pc : Nat} (a b : UInt8) (h : DkAt code pc [184, a, b]) : decode code pc = .ok (.invokestatic (a.toNat * 256 + b.toNat), 3) := dk_of ((dk_bind (dk_u1 (h 0 _ rfl))).trans ((dk_bind (dk_u2 (h 1 _ rfl) (h 2 _ rfl))).trans rfl))
theorem dk_187 {code : ByteArray} {pc : Nat} (a b : UInt8) (h : DkAt code pc [187, a, b]) : decode code pc = .ok (.new (a.toNat * 256 + b.toNat), 3) := dk_of ((dk_bind (dk_u1 (h 0 _ rfl))).trans ((dk_bind (dk_u2 (h 1 _ rfl) (h 2 _ rfl))).trans rfl))
theorem dk_188_11 {code : ByteArray} {pc : Nat} (h : DkAt code pc [188, 11]) : decode code pc = .ok (.newarray .long, 2) := dk_of ((dk_bind (dk_u1 (h 0 _ rfl))).trans ((dk_bind (dk_u1 (h 1 _ rfl))).trans rfl))
theorem dk_190 {code : ByteArray} {pc : Nat} (h : DkAt code pc [190]) : decode code pc = .ok (.arraylength, 1) := dk_of ((dk_bind (dk_u1 (h 0 _ rfl))).trans rfl)
theorem dk_191 {code : ByteArray} {pc : Nat} (h : DkAt code pc [191]) : decode code pc = .ok (.athrow, 1) := dk_of ((dk_bind (dk_u1 (h 0 _ rfl))).trans rfl)
theorem dk_198 {code : ByteArray} {pc : Nat} (a b : UInt8) (h : DkAt code pc [198, a, b]) : decode code pc = .ok (.ifnull (Reader.signed 16 (a.toNat * 256 + b.toNat)), 3) := dk_of ((dk_bind (dk_u1 (h 0 _ rfl))).trans ((dk_bind (dk_map (dk_u2 (h 1 _ rfl) (h 2 _ rfl)))).trans rfl))
theorem dk_199 {code : ByteArray} {pc : Nat} (a b : UInt8) (h : DkAt code pc [199, a, b]) : decode code pc = .ok (.ifnonnull (Reader.signed 16 (a.toNat * 256 + b.toNat)), 3) := dk_of ((dk_bind (dk_u1 (h 0 _ rfl))).trans ((dk_bind (dk_map (dk_u2 (h 1 _ rfl) (h 2 _ rfl)))).trans rfl))
end
section
/-! the law's own entry -/
set_option maxRecDepth 100000
abbrev cL_law : ByteArray := code
def dkwL_law_14 : List UInt8 := [3, 172]
abbrev dktL_law_14 : List UInt8 := dkwL_law_14 ++ []
def dkwL_law_13 : List UInt8 := [132, 5, 1, 167, 255, 145, 42, 184, 0, 18, 153, 0, 14, 42, 184, 0, 24, 153, 0, 7, 4, 167, 0, 4]
abbrev dktL_law_13 : List UInt8 := dkwL_law_13 ++ dktL_law_14
def dkwL_law_12 : List UInt8 := [182, 0, 10, 155, 0, 18, 43, 42, 21, 5, 46, 2, 130, 182, 0, 10, 16, 15, 164, 0, 5, 3, 172]
abbrev dktL_law_12 : List UInt8 := dkwL_law_12 ++ dktL_law_13
def dkwL_law_11 : List UInt8 := [16, 15, 162, 0, 8, 21, 6, 167, 0, 5, 16, 15, 162, 0, 5, 3, 172, 43, 42, 21, 5, 46, 2, 130]
abbrev dktL_law_11 : List UInt8 := dkwL_law_11 ++ dktL_law_12
def dkwL_law_10 : List UInt8 := [160, 0, 6, 132, 6, 1, 132, 8, 1, 167, 255, 232, 21, 7, 16, 15, 163, 0, 22, 21, 7, 21, 6]
abbrev dktL_law_10 : List UInt8 := dkwL_law_10 ++ dktL_law_11
def dkwL_law_9 : List UInt8 := [182, 0, 10, 54, 7, 3, 54, 8, 21, 8, 21, 4, 162, 0, 23, 42, 21, 8, 46, 42, 21, 5, 46]
abbrev dktL_law_9 : List UInt8 := dkwL_law_9 ++ dktL_law_10
def dkwL_law_8 : List UInt8 := [132, 5, 1, 167, 255, 180, 3, 54, 5, 21, 5, 21, 4, 162, 0, 110, 3, 54, 6, 43, 42, 21, 5, 46]
abbrev dktL_law_8 : List UInt8 := dkwL_law_8 ++ dktL_law_9
def dkwL_law_7 : List UInt8 := [182, 0, 10, 21, 7, 161, 0, 16, 43, 42, 21, 5, 46, 182, 0, 10, 21, 8, 162, 0, 5, 3, 172]
abbrev dktL_law_7 : List UInt8 := dkwL_law_7 ++ dktL_law_8
def dkwL_law_6 : List UInt8 := [54, 7, 43, 42, 21, 5, 46, 182, 0, 10, 54, 8, 43, 42, 21, 5, 46, 182, 0, 14, 43, 21, 6]
abbrev dktL_law_6 : List UInt8 := dkwL_law_6 ++ dktL_law_7
def dkwL_law_5 : List UInt8 := [162, 0, 75, 42, 21, 5, 16, 7, 104, 6, 96, 21, 4, 112, 46, 54, 6, 43, 21, 6, 182, 0, 10]
abbrev dktL_law_5 : List UInt8 := dkwL_law_5 ++ dktL_law_6
def dkwL_law_4 : List UInt8 := [190, 16, 64, 162, 0, 8, 42, 190, 167, 0, 5, 16, 64, 54, 4, 3, 54, 5, 21, 5, 21, 4]
abbrev dktL_law_4 : List UInt8 := dkwL_law_4 ++ dktL_law_5
def dkwL_law_3 : List UInt8 := [16, 15, 162, 0, 8, 21, 4, 167, 0, 5, 16, 15, 159, 0, 5, 3, 172, 132, 4, 1, 167, 255, 217, 42]
abbrev dktL_law_3 : List UInt8 := dkwL_law_3 ++ dktL_law_4
def dkwL_law_2 : List UInt8 := [172, 4, 54, 4, 21, 4, 16, 16, 163, 0, 38, 44, 29, 182, 0, 14, 44, 29, 182, 0, 10, 21, 4]
abbrev dktL_law_2 : List UInt8 := dkwL_law_2 ++ dktL_law_3
def dkwL_law_1 : List UInt8 := [167, 0, 4, 3, 62, 44, 29, 182, 0, 10, 154, 0, 13, 44, 29, 2, 130, 182, 0, 10, 153, 0, 5, 3]
abbrev dktL_law_1 : List UInt8 := dkwL_law_1 ++ dktL_law_2
def dkwL_law_0 : List UInt8 := [187, 0, 7, 89, 183, 0, 9, 76, 187, 0, 7, 89, 183, 0, 9, 77, 42, 190, 158, 0, 9, 42, 3, 46]
abbrev dktL_law_0 : List UInt8 := dkwL_law_0 ++ dktL_law_1
theorem dksL_law_0 : cL_law.data.toList.drop 0 = dktL_law_0 := by decide +kernel
theorem dksL_law_1 : cL_law.data.toList.drop 24 = dktL_law_1 := dk_seg dksL_law_0 24 rfl rfl
theorem dksL_law_2 : cL_law.data.toList.drop 48 = dktL_law_2 := dk_seg dksL_law_1 24 rfl rfl
theorem dksL_law_3 : cL_law.data.toList.drop 71 = dktL_law_3 := dk_seg dksL_law_2 23 rfl rfl
theorem dksL_law_4 : cL_law.data.toList.drop 95 = dktL_law_4 := dk_seg dksL_law_3 24 rfl rfl
theorem dksL_law_5 : cL_law.data.toList.drop 117 = dktL_law_5 := dk_seg dksL_law_4 22 rfl rfl
theorem dksL_law_6 : cL_law.data.toList.drop 140 = dktL_law_6 := dk_seg dksL_law_5 23 rfl rfl
theorem dksL_law_7 : cL_law.data.toList.drop 163 = dktL_law_7 := dk_seg dksL_law_6 23 rfl rfl
theorem dksL_law_8 : cL_law.data.toList.drop 186 = dktL_law_8 := dk_seg dksL_law_7 23 rfl rfl
theorem dksL_law_9 : cL_law.data.toList.drop 210 = dktL_law_9 := dk_seg dksL_law_8 24 rfl rfl
theorem dksL_law_10 : cL_law.data.toList.drop 233 = dktL_law_10 := dk_seg dksL_law_9 23 rfl rfl
theorem dksL_law_11 : cL_law.data.toList.drop 256 = dktL_law_11 := dk_seg dksL_law_10 23 rfl rfl
theorem dksL_law_12 : cL_law.data.toList.drop 280 = dktL_law_12 := dk_seg dksL_law_11 24 rfl rfl
theorem dksL_law_13 : cL_law.data.toList.drop 303 = dktL_law_13 := dk_seg dksL_law_12 23 rfl rfl
theorem dksL_law_14 : cL_law.data.toList.drop 327 = dktL_law_14 := dk_seg dksL_law_13 24 rfl rfl
theorem dL_law_0 : decode cL_law 0 = .ok (.new 7, 3) := dk_187 0 7 (dk_at dksL_law_0 0 rfl rfl)
theorem dL_law_3 : decode cL_law 3 = .ok (.dup, 1) := dk_89 (dk_at dksL_law_0 3 rfl rfl)
theorem dL_law_4 : decode cL_law 4 = .ok (.invokespecial 9, 3) := dk_183 0 9 (dk_at dksL_law_0 4 rfl rfl)
theorem dL_law_7 : decode cL_law 7 = .ok (.astore_n 1, 1) := dk_76 (dk_at dksL_law_0 7 rfl rfl)
theorem dL_law_8 : decode cL_law 8 = .ok (.new 7, 3) := dk_187 0 7 (dk_at dksL_law_0 8 rfl rfl)
theorem dL_law_11 : decode cL_law 11 = .ok (.dup, 1) := dk_89 (dk_at dksL_law_0 11 rfl rfl)
theorem dL_law_12 : decode cL_law 12 = .ok (.invokespecial 9, 3) := dk_183 0 9 (dk_at dksL_law_0 12 rfl rfl)
theorem dL_law_15 : decode cL_law 15 = .ok (.astore_n 2, 1) := dk_77 (dk_at dksL_law_0 15 rfl rfl)
theorem dL_law_16 : decode cL_law 16 = .ok (.aload_n 0, 1) := dk_42 (dk_at dksL_law_0 16 rfl rfl)
theorem dL_law_17 : decode cL_law 17 = .ok (.arraylength, 1) := dk_190 (dk_at dksL_law_0 17 rfl rfl)
theorem dL_law_18 : decode cL_law 18 = .ok (.ifCond .le 9, 3) := dk_158 0 9 (dk_at dksL_law_0 18 rfl rfl)
theorem dL_law_21 : decode cL_law 21 = .ok (.aload_n 0, 1) := dk_42 (dk_at dksL_law_0 21 rfl rfl)
theorem dL_law_22 : decode cL_law 22 = .ok (.iconst 0, 1) := dk_3 (dk_at dksL_law_0 22 rfl rfl)
theorem dL_law_23 : decode cL_law 23 = .ok (.iaload, 1) := dk_46 (dk_at dksL_law_0 23 rfl rfl)
theorem dL_law_24 : decode cL_law 24 = .ok (.goto 4, 3) := dk_167 0 4 (dk_at dksL_law_1 0 rfl rfl)
theorem dL_law_27 : decode cL_law 27 = .ok (.iconst 0, 1) := dk_3 (dk_at dksL_law_1 3 rfl rfl)
theorem dL_law_28 : decode cL_law 28 = .ok (.istore_n 3, 1) := dk_62 (dk_at dksL_law_1 4 rfl rfl)
theorem dL_law_29 : decode cL_law 29 = .ok (.aload_n 2, 1) := dk_44 (dk_at dksL_law_1 5 rfl rfl)
theorem dL_law_30 : decode cL_law 30 = .ok (.iload_n 3, 1) := dk_29 (dk_at dksL_law_1 6 rfl rfl)
theorem dL_law_31 : decode cL_law 31 = .ok (.invokevirtual 10, 3) := dk_182 0 10 (dk_at dksL_law_1 7 rfl rfl)
theorem dL_law_34 : decode cL_law 34 = .ok (.ifCond .ne 13, 3) := dk_154 0 13 (dk_at dksL_law_1 10 rfl rfl)
theorem dL_law_37 : decode cL_law 37 = .ok (.aload_n 2, 1) := dk_44 (dk_at dksL_law_1 13 rfl rfl)
theorem dL_law_38 : decode cL_law 38 = .ok (.iload_n 3, 1) := dk_29 (dk_at dksL_law_1 14 rfl rfl)
theorem dL_law_39 : decode cL_law 39 = .ok (.iconst (-1), 1) := dk_2 (dk_at dksL_law_1 15 rfl rfl)
theorem dL_law_40 : decode cL_law 40 = .ok (.ixor, 1) := dk_130 (dk_at dksL_law_1 16 rfl rfl)
theorem dL_law_41 : decode cL_law 41 = .ok (.invokevirtual 10, 3) := dk_182 0 10 (dk_at dksL_law_1 17 rfl rfl)
theorem dL_law_44 : decode cL_law 44 = .ok (.ifCond .eq 5, 3) := dk_153 0 5 (dk_at dksL_law_1 20 rfl rfl)
theorem dL_law_47 : decode cL_law 47 = .ok (.iconst 0, 1) := dk_3 (dk_at dksL_law_1 23 rfl rfl)
theorem dL_law_48 : decode cL_law 48 = .ok (.ireturn, 1) := dk_172 (dk_at dksL_law_2 0 rfl rfl)
theorem dL_law_49 : decode cL_law 49 = .ok (.iconst 1, 1) := dk_4 (dk_at dksL_law_2 1 rfl rfl)
theorem dL_law_50 : decode cL_law 50 = .ok (.istore 4, 2) := dk_54 4 (dk_at dksL_law_2 2 rfl rfl)
theorem dL_law_52 : decode cL_law 52 = .ok (.iload 4, 2) := dk_21 4 (dk_at dksL_law_2 4 rfl rfl)
theorem dL_law_54 : decode cL_law 54 = .ok (.bipush 16, 2) := dk_16 16 (dk_at dksL_law_2 6 rfl rfl)
theorem dL_law_56 : decode cL_law 56 = .ok (.if_icmp .gt 38, 3) := dk_163 0 38 (dk_at dksL_law_2 8 rfl rfl)
theorem dL_law_59 : decode cL_law 59 = .ok (.aload_n 2, 1) := dk_44 (dk_at dksL_law_2 11 rfl rfl)
theorem dL_law_60 : decode cL_law 60 = .ok (.iload_n 3, 1) := dk_29 (dk_at dksL_law_2 12 rfl rfl)
theorem dL_law_61 : decode cL_law 61 = .ok (.invokevirtual 14, 3) := dk_182 0 14 (dk_at dksL_law_2 13 rfl rfl)
theorem dL_law_64 : decode cL_law 64 = .ok (.aload_n 2, 1) := dk_44 (dk_at dksL_law_2 16 rfl rfl)
theorem dL_law_65 : decode cL_law 65 = .ok (.iload_n 3, 1) := dk_29 (dk_at dksL_law_2 17 rfl rfl)
theorem dL_law_66 : decode cL_law 66 = .ok (.invokevirtual 10, 3) := dk_182 0 10 (dk_at dksL_law_2 18 rfl rfl)
theorem dL_law_69 : decode cL_law 69 = .ok (.iload 4, 2) := dk_21 4 (dk_at dksL_law_2 21 rfl rfl)
theorem dL_law_71 : decode cL_law 71 = .ok (.bipush 15, 2) := dk_16 15 (dk_at dksL_law_3 0 rfl rfl)
theorem dL_law_73 : decode cL_law 73 = .ok (.if_icmp .ge 8, 3) := dk_162 0 8 (dk_at dksL_law_3 2 rfl rfl)
theorem dL_law_76 : decode cL_law 76 = .ok (.iload 4, 2) := dk_21 4 (dk_at dksL_law_3 5 rfl rfl)
theorem dL_law_78 : decode cL_law 78 = .ok (.goto 5, 3) := dk_167 0 5 (dk_at dksL_law_3 7 rfl rfl)
theorem dL_law_81 : decode cL_law 81 = .ok (.bipush 15, 2) := dk_16 15 (dk_at dksL_law_3 10 rfl rfl)
theorem dL_law_83 : decode cL_law 83 = .ok (.if_icmp .eq 5, 3) := dk_159 0 5 (dk_at dksL_law_3 12 rfl rfl)
theorem dL_law_86 : decode cL_law 86 = .ok (.iconst 0, 1) := dk_3 (dk_at dksL_law_3 15 rfl rfl)
theorem dL_law_87 : decode cL_law 87 = .ok (.ireturn, 1) := dk_172 (dk_at dksL_law_3 16 rfl rfl)
theorem dL_law_88 : decode cL_law 88 = .ok (.iinc 4 1, 3) := dk_132 4 1 (dk_at dksL_law_3 17 rfl rfl)
theorem dL_law_91 : decode cL_law 91 = .ok (.goto (-39), 3) := dk_167 255 217 (dk_at dksL_law_3 20 rfl rfl)
theorem dL_law_94 : decode cL_law 94 = .ok (.aload_n 0, 1) := dk_42 (dk_at dksL_law_3 23 rfl rfl)
theorem dL_law_95 : decode cL_law 95 = .ok (.arraylength, 1) := dk_190 (dk_at dksL_law_4 0 rfl rfl)
theorem dL_law_96 : decode cL_law 96 = .ok (.bipush 64, 2) := dk_16 64 (dk_at dksL_law_4 1 rfl rfl)
theorem dL_law_98 : decode cL_law 98 = .ok (.if_icmp .ge 8, 3) := dk_162 0 8 (dk_at dksL_law_4 3 rfl rfl)
theorem dL_law_101 : decode cL_law 101 = .ok (.aload_n 0, 1) := dk_42 (dk_at dksL_law_4 6 rfl rfl)
theorem dL_law_102 : decode cL_law 102 = .ok (.arraylength, 1) := dk_190 (dk_at dksL_law_4 7 rfl rfl)
theorem dL_law_103 : decode cL_law 103 = .ok (.goto 5, 3) := dk_167 0 5 (dk_at dksL_law_4 8 rfl rfl)
theorem dL_law_106 : decode cL_law 106 = .ok (.bipush 64, 2) := dk_16 64 (dk_at dksL_law_4 11 rfl rfl)
theorem dL_law_108 : decode cL_law 108 = .ok (.istore 4, 2) := dk_54 4 (dk_at dksL_law_4 13 rfl rfl)
theorem dL_law_110 : decode cL_law 110 = .ok (.iconst 0, 1) := dk_3 (dk_at dksL_law_4 15 rfl rfl)
theorem dL_law_111 : decode cL_law 111 = .ok (.istore 5, 2) := dk_54 5 (dk_at dksL_law_4 16 rfl rfl)
theorem dL_law_113 : decode cL_law 113 = .ok (.iload 5, 2) := dk_21 5 (dk_at dksL_law_4 18 rfl rfl)
theorem dL_law_115 : decode cL_law 115 = .ok (.iload 4, 2) := dk_21 4 (dk_at dksL_law_4 20 rfl rfl)
theorem dL_law_117 : decode cL_law 117 = .ok (.if_icmp .ge 75, 3) := dk_162 0 75 (dk_at dksL_law_5 0 rfl rfl)
theorem dL_law_120 : decode cL_law 120 = .ok (.aload_n 0, 1) := dk_42 (dk_at dksL_law_5 3 rfl rfl)
theorem dL_law_121 : decode cL_law 121 = .ok (.iload 5, 2) := dk_21 5 (dk_at dksL_law_5 4 rfl rfl)
theorem dL_law_123 : decode cL_law 123 = .ok (.bipush 7, 2) := dk_16 7 (dk_at dksL_law_5 6 rfl rfl)
theorem dL_law_125 : decode cL_law 125 = .ok (.imul, 1) := dk_104 (dk_at dksL_law_5 8 rfl rfl)
theorem dL_law_126 : decode cL_law 126 = .ok (.iconst 3, 1) := dk_6 (dk_at dksL_law_5 9 rfl rfl)
theorem dL_law_127 : decode cL_law 127 = .ok (.iadd, 1) := dk_96 (dk_at dksL_law_5 10 rfl rfl)
theorem dL_law_128 : decode cL_law 128 = .ok (.iload 4, 2) := dk_21 4 (dk_at dksL_law_5 11 rfl rfl)
theorem dL_law_130 : decode cL_law 130 = .ok (.irem, 1) := dk_112 (dk_at dksL_law_5 13 rfl rfl)
theorem dL_law_131 : decode cL_law 131 = .ok (.iaload, 1) := dk_46 (dk_at dksL_law_5 14 rfl rfl)
theorem dL_law_132 : decode cL_law 132 = .ok (.istore 6, 2) := dk_54 6 (dk_at dksL_law_5 15 rfl rfl)
theorem dL_law_134 : decode cL_law 134 = .ok (.aload_n 1, 1) := dk_43 (dk_at dksL_law_5 17 rfl rfl)
theorem dL_law_135 : decode cL_law 135 = .ok (.iload 6, 2) := dk_21 6 (dk_at dksL_law_5 18 rfl rfl)
theorem dL_law_137 : decode cL_law 137 = .ok (.invokevirtual 10, 3) := dk_182 0 10 (dk_at dksL_law_5 20 rfl rfl)
theorem dL_law_140 : decode cL_law 140 = .ok (.istore 7, 2) := dk_54 7 (dk_at dksL_law_6 0 rfl rfl)
theorem dL_law_142 : decode cL_law 142 = .ok (.aload_n 1, 1) := dk_43 (dk_at dksL_law_6 2 rfl rfl)
theorem dL_law_143 : decode cL_law 143 = .ok (.aload_n 0, 1) := dk_42 (dk_at dksL_law_6 3 rfl rfl)
theorem dL_law_144 : decode cL_law 144 = .ok (.iload 5, 2) := dk_21 5 (dk_at dksL_law_6 4 rfl rfl)
theorem dL_law_146 : decode cL_law 146 = .ok (.iaload, 1) := dk_46 (dk_at dksL_law_6 6 rfl rfl)
theorem dL_law_147 : decode cL_law 147 = .ok (.invokevirtual 10, 3) := dk_182 0 10 (dk_at dksL_law_6 7 rfl rfl)
theorem dL_law_150 : decode cL_law 150 = .ok (.istore 8, 2) := dk_54 8 (dk_at dksL_law_6 10 rfl rfl)
theorem dL_law_152 : decode cL_law 152 = .ok (.aload_n 1, 1) := dk_43 (dk_at dksL_law_6 12 rfl rfl)
theorem dL_law_153 : decode cL_law 153 = .ok (.aload_n 0, 1) := dk_42 (dk_at dksL_law_6 13 rfl rfl)
theorem dL_law_154 : decode cL_law 154 = .ok (.iload 5, 2) := dk_21 5 (dk_at dksL_law_6 14 rfl rfl)
theorem dL_law_156 : decode cL_law 156 = .ok (.iaload, 1) := dk_46 (dk_at dksL_law_6 16 rfl rfl)
theorem dL_law_157 : decode cL_law 157 = .ok (.invokevirtual 14, 3) := dk_182 0 14 (dk_at dksL_law_6 17 rfl rfl)
theorem dL_law_160 : decode cL_law 160 = .ok (.aload_n 1, 1) := dk_43 (dk_at dksL_law_6 20 rfl rfl)
theorem dL_law_161 : decode cL_law 161 = .ok (.iload 6, 2) := dk_21 6 (dk_at dksL_law_6 21 rfl rfl)
theorem dL_law_163 : decode cL_law 163 = .ok (.invokevirtual 10, 3) := dk_182 0 10 (dk_at dksL_law_7 0 rfl rfl)
theorem dL_law_166 : decode cL_law 166 = .ok (.iload 7, 2) := dk_21 7 (dk_at dksL_law_7 3 rfl rfl)
theorem dL_law_168 : decode cL_law 168 = .ok (.if_icmp .lt 16, 3) := dk_161 0 16 (dk_at dksL_law_7 5 rfl rfl)
theorem dL_law_171 : decode cL_law 171 = .ok (.aload_n 1, 1) := dk_43 (dk_at dksL_law_7 8 rfl rfl)
theorem dL_law_172 : decode cL_law 172 = .ok (.aload_n 0, 1) := dk_42 (dk_at dksL_law_7 9 rfl rfl)
theorem dL_law_173 : decode cL_law 173 = .ok (.iload 5, 2) := dk_21 5 (dk_at dksL_law_7 10 rfl rfl)
theorem dL_law_175 : decode cL_law 175 = .ok (.iaload, 1) := dk_46 (dk_at dksL_law_7 12 rfl rfl)
theorem dL_law_176 : decode cL_law 176 = .ok (.invokevirtual 10, 3) := dk_182 0 10 (dk_at dksL_law_7 13 rfl rfl)
theorem dL_law_179 : decode cL_law 179 = .ok (.iload 8, 2) := dk_21 8 (dk_at dksL_law_7 16 rfl rfl)
theorem dL_law_181 : decode cL_law 181 = .ok (.if_icmp .ge 5, 3) := dk_162 0 5 (dk_at dksL_law_7 18 rfl rfl)
theorem dL_law_184 : decode cL_law 184 = .ok (.iconst 0, 1) := dk_3 (dk_at dksL_law_7 21 rfl rfl)
theorem dL_law_185 : decode cL_law 185 = .ok (.ireturn, 1) := dk_172 (dk_at dksL_law_7 22 rfl rfl)
theorem dL_law_186 : decode cL_law 186 = .ok (.iinc 5 1, 3) := dk_132 5 1 (dk_at dksL_law_8 0 rfl rfl)
theorem dL_law_189 : decode cL_law 189 = .ok (.goto (-76), 3) := dk_167 255 180 (dk_at dksL_law_8 3 rfl rfl)
theorem dL_law_192 : decode cL_law 192 = .ok (.iconst 0, 1) := dk_3 (dk_at dksL_law_8 6 rfl rfl)
theorem dL_law_193 : decode cL_law 193 = .ok (.istore 5, 2) := dk_54 5 (dk_at dksL_law_8 7 rfl rfl)
theorem dL_law_195 : decode cL_law 195 = .ok (.iload 5, 2) := dk_21 5 (dk_at dksL_law_8 9 rfl rfl)
theorem dL_law_197 : decode cL_law 197 = .ok (.iload 4, 2) := dk_21 4 (dk_at dksL_law_8 11 rfl rfl)
theorem dL_law_199 : decode cL_law 199 = .ok (.if_icmp .ge 110, 3) := dk_162 0 110 (dk_at dksL_law_8 13 rfl rfl)
theorem dL_law_202 : decode cL_law 202 = .ok (.iconst 0, 1) := dk_3 (dk_at dksL_law_8 16 rfl rfl)
theorem dL_law_203 : decode cL_law 203 = .ok (.istore 6, 2) := dk_54 6 (dk_at dksL_law_8 17 rfl rfl)
theorem dL_law_205 : decode cL_law 205 = .ok (.aload_n 1, 1) := dk_43 (dk_at dksL_law_8 19 rfl rfl)
theorem dL_law_206 : decode cL_law 206 = .ok (.aload_n 0, 1) := dk_42 (dk_at dksL_law_8 20 rfl rfl)
theorem dL_law_207 : decode cL_law 207 = .ok (.iload 5, 2) := dk_21 5 (dk_at dksL_law_8 21 rfl rfl)
theorem dL_law_209 : decode cL_law 209 = .ok (.iaload, 1) := dk_46 (dk_at dksL_law_8 23 rfl rfl)
theorem dL_law_210 : decode cL_law 210 = .ok (.invokevirtual 10, 3) := dk_182 0 10 (dk_at dksL_law_9 0 rfl rfl)
theorem dL_law_213 : decode cL_law 213 = .ok (.istore 7, 2) := dk_54 7 (dk_at dksL_law_9 3 rfl rfl)
theorem dL_law_215 : decode cL_law 215 = .ok (.iconst 0, 1) := dk_3 (dk_at dksL_law_9 5 rfl rfl)
theorem dL_law_216 : decode cL_law 216 = .ok (.istore 8, 2) := dk_54 8 (dk_at dksL_law_9 6 rfl rfl)
theorem dL_law_218 : decode cL_law 218 = .ok (.iload 8, 2) := dk_21 8 (dk_at dksL_law_9 8 rfl rfl)
theorem dL_law_220 : decode cL_law 220 = .ok (.iload 4, 2) := dk_21 4 (dk_at dksL_law_9 10 rfl rfl)
theorem dL_law_222 : decode cL_law 222 = .ok (.if_icmp .ge 23, 3) := dk_162 0 23 (dk_at dksL_law_9 12 rfl rfl)
theorem dL_law_225 : decode cL_law 225 = .ok (.aload_n 0, 1) := dk_42 (dk_at dksL_law_9 15 rfl rfl)
theorem dL_law_226 : decode cL_law 226 = .ok (.iload 8, 2) := dk_21 8 (dk_at dksL_law_9 16 rfl rfl)
theorem dL_law_228 : decode cL_law 228 = .ok (.iaload, 1) := dk_46 (dk_at dksL_law_9 18 rfl rfl)
theorem dL_law_229 : decode cL_law 229 = .ok (.aload_n 0, 1) := dk_42 (dk_at dksL_law_9 19 rfl rfl)
theorem dL_law_230 : decode cL_law 230 = .ok (.iload 5, 2) := dk_21 5 (dk_at dksL_law_9 20 rfl rfl)
theorem dL_law_232 : decode cL_law 232 = .ok (.iaload, 1) := dk_46 (dk_at dksL_law_9 22 rfl rfl)
theorem dL_law_233 : decode cL_law 233 = .ok (.if_icmp .ne 6, 3) := dk_160 0 6 (dk_at dksL_law_10 0 rfl rfl)
theorem dL_law_236 : decode cL_law 236 = .ok (.iinc 6 1, 3) := dk_132 6 1 (dk_at dksL_law_10 3 rfl rfl)
theorem dL_law_239 : decode cL_law 239 = .ok (.iinc 8 1, 3) := dk_132 8 1 (dk_at dksL_law_10 6 rfl rfl)
theorem dL_law_242 : decode cL_law 242 = .ok (.goto (-24), 3) := dk_167 255 232 (dk_at dksL_law_10 9 rfl rfl)
theorem dL_law_245 : decode cL_law 245 = .ok (.iload 7, 2) := dk_21 7 (dk_at dksL_law_10 12 rfl rfl)
theorem dL_law_247 : decode cL_law 247 = .ok (.bipush 15, 2) := dk_16 15 (dk_at dksL_law_10 14 rfl rfl)
theorem dL_law_249 : decode cL_law 249 = .ok (.if_icmp .gt 22, 3) := dk_163 0 22 (dk_at dksL_law_10 16 rfl rfl)
theorem dL_law_252 : decode cL_law 252 = .ok (.iload 7, 2) := dk_21 7 (dk_at dksL_law_10 19 rfl rfl)
theorem dL_law_254 : decode cL_law 254 = .ok (.iload 6, 2) := dk_21 6 (dk_at dksL_law_10 21 rfl rfl)
theorem dL_law_256 : decode cL_law 256 = .ok (.bipush 15, 2) := dk_16 15 (dk_at dksL_law_11 0 rfl rfl)
theorem dL_law_258 : decode cL_law 258 = .ok (.if_icmp .ge 8, 3) := dk_162 0 8 (dk_at dksL_law_11 2 rfl rfl)
theorem dL_law_261 : decode cL_law 261 = .ok (.iload 6, 2) := dk_21 6 (dk_at dksL_law_11 5 rfl rfl)
theorem dL_law_263 : decode cL_law 263 = .ok (.goto 5, 3) := dk_167 0 5 (dk_at dksL_law_11 7 rfl rfl)
theorem dL_law_266 : decode cL_law 266 = .ok (.bipush 15, 2) := dk_16 15 (dk_at dksL_law_11 10 rfl rfl)
theorem dL_law_268 : decode cL_law 268 = .ok (.if_icmp .ge 5, 3) := dk_162 0 5 (dk_at dksL_law_11 12 rfl rfl)
theorem dL_law_271 : decode cL_law 271 = .ok (.iconst 0, 1) := dk_3 (dk_at dksL_law_11 15 rfl rfl)
theorem dL_law_272 : decode cL_law 272 = .ok (.ireturn, 1) := dk_172 (dk_at dksL_law_11 16 rfl rfl)
theorem dL_law_273 : decode cL_law 273 = .ok (.aload_n 1, 1) := dk_43 (dk_at dksL_law_11 17 rfl rfl)
theorem dL_law_274 : decode cL_law 274 = .ok (.aload_n 0, 1) := dk_42 (dk_at dksL_law_11 18 rfl rfl)
theorem dL_law_275 : decode cL_law 275 = .ok (.iload 5, 2) := dk_21 5 (dk_at dksL_law_11 19 rfl rfl)
theorem dL_law_277 : decode cL_law 277 = .ok (.iaload, 1) := dk_46 (dk_at dksL_law_11 21 rfl rfl)
theorem dL_law_278 : decode cL_law 278 = .ok (.iconst (-1), 1) := dk_2 (dk_at dksL_law_11 22 rfl rfl)
theorem dL_law_279 : decode cL_law 279 = .ok (.ixor, 1) := dk_130 (dk_at dksL_law_11 23 rfl rfl)
theorem dL_law_280 : decode cL_law 280 = .ok (.invokevirtual 10, 3) := dk_182 0 10 (dk_at dksL_law_12 0 rfl rfl)
theorem dL_law_283 : decode cL_law 283 = .ok (.ifCond .lt 18, 3) := dk_155 0 18 (dk_at dksL_law_12 3 rfl rfl)
theorem dL_law_286 : decode cL_law 286 = .ok (.aload_n 1, 1) := dk_43 (dk_at dksL_law_12 6 rfl rfl)
theorem dL_law_287 : decode cL_law 287 = .ok (.aload_n 0, 1) := dk_42 (dk_at dksL_law_12 7 rfl rfl)
theorem dL_law_288 : decode cL_law 288 = .ok (.iload 5, 2) := dk_21 5 (dk_at dksL_law_12 8 rfl rfl)
theorem dL_law_290 : decode cL_law 290 = .ok (.iaload, 1) := dk_46 (dk_at dksL_law_12 10 rfl rfl)
theorem dL_law_291 : decode cL_law 291 = .ok (.iconst (-1), 1) := dk_2 (dk_at dksL_law_12 11 rfl rfl)
theorem dL_law_292 : decode cL_law 292 = .ok (.ixor, 1) := dk_130 (dk_at dksL_law_12 12 rfl rfl)
theorem dL_law_293 : decode cL_law 293 = .ok (.invokevirtual 10, 3) := dk_182 0 10 (dk_at dksL_law_12 13 rfl rfl)
theorem dL_law_296 : decode cL_law 296 = .ok (.bipush 15, 2) := dk_16 15 (dk_at dksL_law_12 16 rfl rfl)
theorem dL_law_298 : decode cL_law 298 = .ok (.if_icmp .le 5, 3) := dk_164 0 5 (dk_at dksL_law_12 18 rfl rfl)
theorem dL_law_301 : decode cL_law 301 = .ok (.iconst 0, 1) := dk_3 (dk_at dksL_law_12 21 rfl rfl)
theorem dL_law_302 : decode cL_law 302 = .ok (.ireturn, 1) := dk_172 (dk_at dksL_law_12 22 rfl rfl)
theorem dL_law_303 : decode cL_law 303 = .ok (.iinc 5 1, 3) := dk_132 5 1 (dk_at dksL_law_13 0 rfl rfl)
theorem dL_law_306 : decode cL_law 306 = .ok (.goto (-111), 3) := dk_167 255 145 (dk_at dksL_law_13 3 rfl rfl)
theorem dL_law_309 : decode cL_law 309 = .ok (.aload_n 0, 1) := dk_42 (dk_at dksL_law_13 6 rfl rfl)
theorem dL_law_310 : decode cL_law 310 = .ok (.invokestatic 18, 3) := dk_184 0 18 (dk_at dksL_law_13 7 rfl rfl)
theorem dL_law_313 : decode cL_law 313 = .ok (.ifCond .eq 14, 3) := dk_153 0 14 (dk_at dksL_law_13 10 rfl rfl)
theorem dL_law_316 : decode cL_law 316 = .ok (.aload_n 0, 1) := dk_42 (dk_at dksL_law_13 13 rfl rfl)
theorem dL_law_317 : decode cL_law 317 = .ok (.invokestatic 24, 3) := dk_184 0 24 (dk_at dksL_law_13 14 rfl rfl)
theorem dL_law_320 : decode cL_law 320 = .ok (.ifCond .eq 7, 3) := dk_153 0 7 (dk_at dksL_law_13 17 rfl rfl)
theorem dL_law_323 : decode cL_law 323 = .ok (.iconst 1, 1) := dk_4 (dk_at dksL_law_13 20 rfl rfl)
theorem dL_law_324 : decode cL_law 324 = .ok (.goto 4, 3) := dk_167 0 4 (dk_at dksL_law_13 21 rfl rfl)
theorem dL_law_327 : decode cL_law 327 = .ok (.iconst 0, 1) := dk_3 (dk_at dksL_law_14 0 rfl rfl)
theorem dL_law_328 : decode cL_law 328 = .ok (.ireturn, 1) := dk_172 (dk_at dksL_law_14 1 rfl rfl)
/-! SketchDeskLaw -/
set_option maxRecDepth 100000
def RX0 : String := "SketchDeskLaw"
abbrev cX0_apart : ByteArray := method_4_code
def yX0_apart : MethodName := ⟨RX0, "apart", "([I)Z"⟩
def dkwX0_apart_3 : List UInt8 := [17, 16, 0, 163, 0, 17, 43, 28, 182, 0, 10, 16, 15, 160, 0, 7, 4, 167, 0, 4, 3, 172]
abbrev dktX0_apart_3 : List UInt8 := dkwX0_apart_3 ++ []
def dkwX0_apart_2 : List UInt8 := [163, 0, 23, 43, 28, 21, 4, 96, 182, 0, 10, 158, 0, 6, 132, 3, 1, 132, 4, 1, 167, 255, 231, 29]
abbrev dktX0_apart_2 : List UInt8 := dkwX0_apart_2 ++ dktX0_apart_3
def dkwX0_apart_1 : List UInt8 := [162, 0, 14, 43, 28, 182, 0, 14, 132, 4, 1, 167, 255, 241, 4, 54, 4, 21, 4, 17, 32, 0]
abbrev dktX0_apart_1 : List UInt8 := dkwX0_apart_1 ++ dktX0_apart_2
def dkwX0_apart_0 : List UInt8 := [187, 0, 7, 89, 183, 0, 9, 76, 42, 3, 184, 0, 27, 61, 3, 62, 3, 54, 4, 21, 4, 16, 15]
abbrev dktX0_apart_0 : List UInt8 := dkwX0_apart_0 ++ dktX0_apart_1
theorem dksX0_apart_0 : cX0_apart.data.toList.drop 0 = dktX0_apart_0 := by decide +kernel
theorem dksX0_apart_1 : cX0_apart.data.toList.drop 23 = dktX0_apart_1 := dk_seg dksX0_apart_0 23 rfl rfl
theorem dksX0_apart_2 : cX0_apart.data.toList.drop 45 = dktX0_apart_2 := dk_seg dksX0_apart_1 22 rfl rfl
theorem dksX0_apart_3 : cX0_apart.data.toList.drop 69 = dktX0_apart_3 := dk_seg dksX0_apart_2 24 rfl rfl
theorem dX0_apart_0 : decode cX0_apart 0 = .ok (.new 7, 3) := dk_187 0 7 (dk_at dksX0_apart_0 0 rfl rfl)
theorem dX0_apart_3 : decode cX0_apart 3 = .ok (.dup, 1) := dk_89 (dk_at dksX0_apart_0 3 rfl rfl)
theorem dX0_apart_4 : decode cX0_apart 4 = .ok (.invokespecial 9, 3) := dk_183 0 9 (dk_at dksX0_apart_0 4 rfl rfl)
theorem dX0_apart_7 : decode cX0_apart 7 = .ok (.astore_n 1, 1) := dk_76 (dk_at dksX0_apart_0 7 rfl rfl)
theorem dX0_apart_8 : decode cX0_apart 8 = .ok (.aload_n 0, 1) := dk_42 (dk_at dksX0_apart_0 8 rfl rfl)
theorem dX0_apart_9 : decode cX0_apart 9 = .ok (.iconst 0, 1) := dk_3 (dk_at dksX0_apart_0 9 rfl rfl)
theorem dX0_apart_10 : decode cX0_apart 10 = .ok (.invokestatic 27, 3) := dk_184 0 27 (dk_at dksX0_apart_0 10 rfl rfl)
theorem dX0_apart_13 : decode cX0_apart 13 = .ok (.istore_n 2, 1) := dk_61 (dk_at dksX0_apart_0 13 rfl rfl)
theorem dX0_apart_14 : decode cX0_apart 14 = .ok (.iconst 0, 1) := dk_3 (dk_at dksX0_apart_0 14 rfl rfl)
theorem dX0_apart_15 : decode cX0_apart 15 = .ok (.istore_n 3, 1) := dk_62 (dk_at dksX0_apart_0 15 rfl rfl)
theorem dX0_apart_16 : decode cX0_apart 16 = .ok (.iconst 0, 1) := dk_3 (dk_at dksX0_apart_0 16 rfl rfl)
theorem dX0_apart_17 : decode cX0_apart 17 = .ok (.istore 4, 2) := dk_54 4 (dk_at dksX0_apart_0 17 rfl rfl)
theorem dX0_apart_19 : decode cX0_apart 19 = .ok (.iload 4, 2) := dk_21 4 (dk_at dksX0_apart_0 19 rfl rfl)
theorem dX0_apart_21 : decode cX0_apart 21 = .ok (.bipush 15, 2) := dk_16 15 (dk_at dksX0_apart_0 21 rfl rfl)
theorem dX0_apart_23 : decode cX0_apart 23 = .ok (.if_icmp .ge 14, 3) := dk_162 0 14 (dk_at dksX0_apart_1 0 rfl rfl)
theorem dX0_apart_26 : decode cX0_apart 26 = .ok (.aload_n 1, 1) := dk_43 (dk_at dksX0_apart_1 3 rfl rfl)
theorem dX0_apart_27 : decode cX0_apart 27 = .ok (.iload_n 2, 1) := dk_28 (dk_at dksX0_apart_1 4 rfl rfl)
theorem dX0_apart_28 : decode cX0_apart 28 = .ok (.invokevirtual 14, 3) := dk_182 0 14 (dk_at dksX0_apart_1 5 rfl rfl)
theorem dX0_apart_31 : decode cX0_apart 31 = .ok (.iinc 4 1, 3) := dk_132 4 1 (dk_at dksX0_apart_1 8 rfl rfl)
theorem dX0_apart_34 : decode cX0_apart 34 = .ok (.goto (-15), 3) := dk_167 255 241 (dk_at dksX0_apart_1 11 rfl rfl)
theorem dX0_apart_37 : decode cX0_apart 37 = .ok (.iconst 1, 1) := dk_4 (dk_at dksX0_apart_1 14 rfl rfl)
theorem dX0_apart_38 : decode cX0_apart 38 = .ok (.istore 4, 2) := dk_54 4 (dk_at dksX0_apart_1 15 rfl rfl)
theorem dX0_apart_40 : decode cX0_apart 40 = .ok (.iload 4, 2) := dk_21 4 (dk_at dksX0_apart_1 17 rfl rfl)
theorem dX0_apart_42 : decode cX0_apart 42 = .ok (.sipush 8192, 3) := dk_17 32 0 (dk_at dksX0_apart_1 19 rfl rfl)
theorem dX0_apart_45 : decode cX0_apart 45 = .ok (.if_icmp .gt 23, 3) := dk_163 0 23 (dk_at dksX0_apart_2 0 rfl rfl)
theorem dX0_apart_48 : decode cX0_apart 48 = .ok (.aload_n 1, 1) := dk_43 (dk_at dksX0_apart_2 3 rfl rfl)
theorem dX0_apart_49 : decode cX0_apart 49 = .ok (.iload_n 2, 1) := dk_28 (dk_at dksX0_apart_2 4 rfl rfl)
theorem dX0_apart_50 : decode cX0_apart 50 = .ok (.iload 4, 2) := dk_21 4 (dk_at dksX0_apart_2 5 rfl rfl)
theorem dX0_apart_52 : decode cX0_apart 52 = .ok (.iadd, 1) := dk_96 (dk_at dksX0_apart_2 7 rfl rfl)
theorem dX0_apart_53 : decode cX0_apart 53 = .ok (.invokevirtual 10, 3) := dk_182 0 10 (dk_at dksX0_apart_2 8 rfl rfl)
theorem dX0_apart_56 : decode cX0_apart 56 = .ok (.ifCond .le 6, 3) := dk_158 0 6 (dk_at dksX0_apart_2 11 rfl rfl)
theorem dX0_apart_59 : decode cX0_apart 59 = .ok (.iinc 3 1, 3) := dk_132 3 1 (dk_at dksX0_apart_2 14 rfl rfl)
theorem dX0_apart_62 : decode cX0_apart 62 = .ok (.iinc 4 1, 3) := dk_132 4 1 (dk_at dksX0_apart_2 17 rfl rfl)
theorem dX0_apart_65 : decode cX0_apart 65 = .ok (.goto (-25), 3) := dk_167 255 231 (dk_at dksX0_apart_2 20 rfl rfl)
theorem dX0_apart_68 : decode cX0_apart 68 = .ok (.iload_n 3, 1) := dk_29 (dk_at dksX0_apart_2 23 rfl rfl)
theorem dX0_apart_69 : decode cX0_apart 69 = .ok (.sipush 4096, 3) := dk_17 16 0 (dk_at dksX0_apart_3 0 rfl rfl)
theorem dX0_apart_72 : decode cX0_apart 72 = .ok (.if_icmp .gt 17, 3) := dk_163 0 17 (dk_at dksX0_apart_3 3 rfl rfl)
theorem dX0_apart_75 : decode cX0_apart 75 = .ok (.aload_n 1, 1) := dk_43 (dk_at dksX0_apart_3 6 rfl rfl)
theorem dX0_apart_76 : decode cX0_apart 76 = .ok (.iload_n 2, 1) := dk_28 (dk_at dksX0_apart_3 7 rfl rfl)
theorem dX0_apart_77 : decode cX0_apart 77 = .ok (.invokevirtual 10, 3) := dk_182 0 10 (dk_at dksX0_apart_3 8 rfl rfl)
theorem dX0_apart_80 : decode cX0_apart 80 = .ok (.bipush 15, 2) := dk_16 15 (dk_at dksX0_apart_3 11 rfl rfl)
theorem dX0_apart_82 : decode cX0_apart 82 = .ok (.if_icmp .ne 7, 3) := dk_160 0 7 (dk_at dksX0_apart_3 13 rfl rfl)
theorem dX0_apart_85 : decode cX0_apart 85 = .ok (.iconst 1, 1) := dk_4 (dk_at dksX0_apart_3 16 rfl rfl)
theorem dX0_apart_86 : decode cX0_apart 86 = .ok (.goto 4, 3) := dk_167 0 4 (dk_at dksX0_apart_3 17 rfl rfl)
theorem dX0_apart_89 : decode cX0_apart 89 = .ok (.iconst 0, 1) := dk_3 (dk_at dksX0_apart_3 20 rfl rfl)
theorem dX0_apart_90 : decode cX0_apart 90 = .ok (.ireturn, 1) := dk_172 (dk_at dksX0_apart_3 21 rfl rfl)
abbrev cX0_cell : ByteArray := method_3_code
def yX0_cell : MethodName := ⟨RX0, "cell", "([II)I"⟩
def dkwX0_cell_0 : List UInt8 := [27, 42, 190, 162, 0, 9, 42, 27, 46, 167, 0, 4, 3, 172]
abbrev dktX0_cell_0 : List UInt8 := dkwX0_cell_0 ++ []
theorem dksX0_cell_0 : cX0_cell.data.toList.drop 0 = dktX0_cell_0 := by decide +kernel
theorem dX0_cell_0 : decode cX0_cell 0 = .ok (.iload_n 1, 1) := dk_27 (dk_at dksX0_cell_0 0 rfl rfl)
theorem dX0_cell_1 : decode cX0_cell 1 = .ok (.aload_n 0, 1) := dk_42 (dk_at dksX0_cell_0 1 rfl rfl)
theorem dX0_cell_2 : decode cX0_cell 2 = .ok (.arraylength, 1) := dk_190 (dk_at dksX0_cell_0 2 rfl rfl)
theorem dX0_cell_3 : decode cX0_cell 3 = .ok (.if_icmp .ge 9, 3) := dk_162 0 9 (dk_at dksX0_cell_0 3 rfl rfl)
theorem dX0_cell_6 : decode cX0_cell 6 = .ok (.aload_n 0, 1) := dk_42 (dk_at dksX0_cell_0 6 rfl rfl)
theorem dX0_cell_7 : decode cX0_cell 7 = .ok (.iload_n 1, 1) := dk_27 (dk_at dksX0_cell_0 7 rfl rfl)
theorem dX0_cell_8 : decode cX0_cell 8 = .ok (.iaload, 1) := dk_46 (dk_at dksX0_cell_0 8 rfl rfl)
theorem dX0_cell_9 : decode cX0_cell 9 = .ok (.goto 4, 3) := dk_167 0 4 (dk_at dksX0_cell_0 9 rfl rfl)
theorem dX0_cell_12 : decode cX0_cell 12 = .ok (.iconst 0, 1) := dk_3 (dk_at dksX0_cell_0 12 rfl rfl)
theorem dX0_cell_13 : decode cX0_cell 13 = .ok (.ireturn, 1) := dk_172 (dk_at dksX0_cell_0 13 rfl rfl)
abbrev cX0_asked : ByteArray := method_5_code
def yX0_asked : MethodName := ⟨RX0, "asked", "([I)Z"⟩
def dkwX0_asked_8 : List UInt8 := [167, 0, 4, 3, 172]
abbrev dktX0_asked_8 : List UInt8 := dkwX0_asked_8 ++ []
def dkwX0_asked_7 : List UInt8 := [167, 255, 199, 187, 0, 7, 89, 183, 0, 9, 42, 3, 184, 0, 27, 182, 0, 10, 154, 0, 7, 4]
abbrev dktX0_asked_7 : List UInt8 := dkwX0_asked_7 ++ dktX0_asked_8
def dkwX0_asked_6 : List UInt8 := [2, 130, 182, 0, 10, 44, 42, 29, 184, 0, 27, 2, 130, 182, 0, 10, 159, 0, 5, 3, 172, 132, 3, 1]
abbrev dktX0_asked_6 : List UInt8 := dkwX0_asked_6 ++ dktX0_asked_7
def dkwX0_asked_5 : List UInt8 := [184, 0, 27, 182, 0, 10, 44, 42, 29, 184, 0, 27, 182, 0, 10, 160, 0, 28, 43, 42, 29, 184, 0, 27]
abbrev dktX0_asked_5 : List UInt8 := dkwX0_asked_5 ++ dktX0_asked_6
def dkwX0_asked_4 : List UInt8 := [29, 184, 0, 27, 182, 0, 14, 132, 3, 1, 167, 255, 169, 3, 62, 29, 16, 64, 162, 0, 57, 43, 42, 29]
abbrev dktX0_asked_4 : List UInt8 := dkwX0_asked_4 ++ dktX0_asked_5
def dkwX0_asked_3 : List UInt8 := [43, 42, 29, 184, 0, 27, 182, 0, 10, 21, 4, 159, 0, 5, 3, 172, 132, 5, 1, 167, 255, 213, 44, 42]
abbrev dktX0_asked_3 : List UInt8 := dkwX0_asked_3 ++ dktX0_asked_4
def dkwX0_asked_2 : List UInt8 := [21, 5, 6, 162, 0, 43, 43, 42, 29, 21, 5, 96, 16, 63, 126, 184, 0, 27, 182, 0, 10, 155, 0, 17]
abbrev dktX0_asked_2 : List UInt8 := dkwX0_asked_2 ++ dktX0_asked_3
def dkwX0_asked_1 : List UInt8 := [43, 42, 29, 184, 0, 27, 182, 0, 14, 43, 42, 29, 184, 0, 27, 182, 0, 10, 54, 4, 3, 54, 5]
abbrev dktX0_asked_1 : List UInt8 := dkwX0_asked_1 ++ dktX0_asked_2
def dkwX0_asked_0 : List UInt8 := [187, 0, 7, 89, 183, 0, 9, 76, 187, 0, 7, 89, 183, 0, 9, 77, 3, 62, 29, 16, 64, 162, 0, 87]
abbrev dktX0_asked_0 : List UInt8 := dkwX0_asked_0 ++ dktX0_asked_1
theorem dksX0_asked_0 : cX0_asked.data.toList.drop 0 = dktX0_asked_0 := by decide +kernel
theorem dksX0_asked_1 : cX0_asked.data.toList.drop 24 = dktX0_asked_1 := dk_seg dksX0_asked_0 24 rfl rfl
theorem dksX0_asked_2 : cX0_asked.data.toList.drop 47 = dktX0_asked_2 := dk_seg dksX0_asked_1 23 rfl rfl
theorem dksX0_asked_3 : cX0_asked.data.toList.drop 71 = dktX0_asked_3 := dk_seg dksX0_asked_2 24 rfl rfl
theorem dksX0_asked_4 : cX0_asked.data.toList.drop 95 = dktX0_asked_4 := dk_seg dksX0_asked_3 24 rfl rfl
theorem dksX0_asked_5 : cX0_asked.data.toList.drop 119 = dktX0_asked_5 := dk_seg dksX0_asked_4 24 rfl rfl
theorem dksX0_asked_6 : cX0_asked.data.toList.drop 143 = dktX0_asked_6 := dk_seg dksX0_asked_5 24 rfl rfl
theorem dksX0_asked_7 : cX0_asked.data.toList.drop 167 = dktX0_asked_7 := dk_seg dksX0_asked_6 24 rfl rfl
theorem dksX0_asked_8 : cX0_asked.data.toList.drop 189 = dktX0_asked_8 := dk_seg dksX0_asked_7 22 rfl rfl
theorem dX0_asked_0 : decode cX0_asked 0 = .ok (.new 7, 3) := dk_187 0 7 (dk_at dksX0_asked_0 0 rfl rfl)
theorem dX0_asked_3 : decode cX0_asked 3 = .ok (.dup, 1) := dk_89 (dk_at dksX0_asked_0 3 rfl rfl)
theorem dX0_asked_4 : decode cX0_asked 4 = .ok (.invokespecial 9, 3) := dk_183 0 9 (dk_at dksX0_asked_0 4 rfl rfl)
theorem dX0_asked_7 : decode cX0_asked 7 = .ok (.astore_n 1, 1) := dk_76 (dk_at dksX0_asked_0 7 rfl rfl)
theorem dX0_asked_8 : decode cX0_asked 8 = .ok (.new 7, 3) := dk_187 0 7 (dk_at dksX0_asked_0 8 rfl rfl)
theorem dX0_asked_11 : decode cX0_asked 11 = .ok (.dup, 1) := dk_89 (dk_at dksX0_asked_0 11 rfl rfl)
theorem dX0_asked_12 : decode cX0_asked 12 = .ok (.invokespecial 9, 3) := dk_183 0 9 (dk_at dksX0_asked_0 12 rfl rfl)
theorem dX0_asked_15 : decode cX0_asked 15 = .ok (.astore_n 2, 1) := dk_77 (dk_at dksX0_asked_0 15 rfl rfl)
theorem dX0_asked_16 : decode cX0_asked 16 = .ok (.iconst 0, 1) := dk_3 (dk_at dksX0_asked_0 16 rfl rfl)
theorem dX0_asked_17 : decode cX0_asked 17 = .ok (.istore_n 3, 1) := dk_62 (dk_at dksX0_asked_0 17 rfl rfl)
theorem dX0_asked_18 : decode cX0_asked 18 = .ok (.iload_n 3, 1) := dk_29 (dk_at dksX0_asked_0 18 rfl rfl)
theorem dX0_asked_19 : decode cX0_asked 19 = .ok (.bipush 64, 2) := dk_16 64 (dk_at dksX0_asked_0 19 rfl rfl)
theorem dX0_asked_21 : decode cX0_asked 21 = .ok (.if_icmp .ge 87, 3) := dk_162 0 87 (dk_at dksX0_asked_0 21 rfl rfl)
theorem dX0_asked_24 : decode cX0_asked 24 = .ok (.aload_n 1, 1) := dk_43 (dk_at dksX0_asked_1 0 rfl rfl)
theorem dX0_asked_25 : decode cX0_asked 25 = .ok (.aload_n 0, 1) := dk_42 (dk_at dksX0_asked_1 1 rfl rfl)
theorem dX0_asked_26 : decode cX0_asked 26 = .ok (.iload_n 3, 1) := dk_29 (dk_at dksX0_asked_1 2 rfl rfl)
theorem dX0_asked_27 : decode cX0_asked 27 = .ok (.invokestatic 27, 3) := dk_184 0 27 (dk_at dksX0_asked_1 3 rfl rfl)
theorem dX0_asked_30 : decode cX0_asked 30 = .ok (.invokevirtual 14, 3) := dk_182 0 14 (dk_at dksX0_asked_1 6 rfl rfl)
theorem dX0_asked_33 : decode cX0_asked 33 = .ok (.aload_n 1, 1) := dk_43 (dk_at dksX0_asked_1 9 rfl rfl)
theorem dX0_asked_34 : decode cX0_asked 34 = .ok (.aload_n 0, 1) := dk_42 (dk_at dksX0_asked_1 10 rfl rfl)
theorem dX0_asked_35 : decode cX0_asked 35 = .ok (.iload_n 3, 1) := dk_29 (dk_at dksX0_asked_1 11 rfl rfl)
theorem dX0_asked_36 : decode cX0_asked 36 = .ok (.invokestatic 27, 3) := dk_184 0 27 (dk_at dksX0_asked_1 12 rfl rfl)
theorem dX0_asked_39 : decode cX0_asked 39 = .ok (.invokevirtual 10, 3) := dk_182 0 10 (dk_at dksX0_asked_1 15 rfl rfl)
theorem dX0_asked_42 : decode cX0_asked 42 = .ok (.istore 4, 2) := dk_54 4 (dk_at dksX0_asked_1 18 rfl rfl)
theorem dX0_asked_44 : decode cX0_asked 44 = .ok (.iconst 0, 1) := dk_3 (dk_at dksX0_asked_1 20 rfl rfl)
theorem dX0_asked_45 : decode cX0_asked 45 = .ok (.istore 5, 2) := dk_54 5 (dk_at dksX0_asked_1 21 rfl rfl)
theorem dX0_asked_47 : decode cX0_asked 47 = .ok (.iload 5, 2) := dk_21 5 (dk_at dksX0_asked_2 0 rfl rfl)
theorem dX0_asked_49 : decode cX0_asked 49 = .ok (.iconst 3, 1) := dk_6 (dk_at dksX0_asked_2 2 rfl rfl)
theorem dX0_asked_50 : decode cX0_asked 50 = .ok (.if_icmp .ge 43, 3) := dk_162 0 43 (dk_at dksX0_asked_2 3 rfl rfl)
theorem dX0_asked_53 : decode cX0_asked 53 = .ok (.aload_n 1, 1) := dk_43 (dk_at dksX0_asked_2 6 rfl rfl)
theorem dX0_asked_54 : decode cX0_asked 54 = .ok (.aload_n 0, 1) := dk_42 (dk_at dksX0_asked_2 7 rfl rfl)
theorem dX0_asked_55 : decode cX0_asked 55 = .ok (.iload_n 3, 1) := dk_29 (dk_at dksX0_asked_2 8 rfl rfl)
theorem dX0_asked_56 : decode cX0_asked 56 = .ok (.iload 5, 2) := dk_21 5 (dk_at dksX0_asked_2 9 rfl rfl)
theorem dX0_asked_58 : decode cX0_asked 58 = .ok (.iadd, 1) := dk_96 (dk_at dksX0_asked_2 11 rfl rfl)
theorem dX0_asked_59 : decode cX0_asked 59 = .ok (.bipush 63, 2) := dk_16 63 (dk_at dksX0_asked_2 12 rfl rfl)
theorem dX0_asked_61 : decode cX0_asked 61 = .ok (.iand, 1) := dk_126 (dk_at dksX0_asked_2 14 rfl rfl)
theorem dX0_asked_62 : decode cX0_asked 62 = .ok (.invokestatic 27, 3) := dk_184 0 27 (dk_at dksX0_asked_2 15 rfl rfl)
theorem dX0_asked_65 : decode cX0_asked 65 = .ok (.invokevirtual 10, 3) := dk_182 0 10 (dk_at dksX0_asked_2 18 rfl rfl)
theorem dX0_asked_68 : decode cX0_asked 68 = .ok (.ifCond .lt 17, 3) := dk_155 0 17 (dk_at dksX0_asked_2 21 rfl rfl)
theorem dX0_asked_71 : decode cX0_asked 71 = .ok (.aload_n 1, 1) := dk_43 (dk_at dksX0_asked_3 0 rfl rfl)
theorem dX0_asked_72 : decode cX0_asked 72 = .ok (.aload_n 0, 1) := dk_42 (dk_at dksX0_asked_3 1 rfl rfl)
theorem dX0_asked_73 : decode cX0_asked 73 = .ok (.iload_n 3, 1) := dk_29 (dk_at dksX0_asked_3 2 rfl rfl)
theorem dX0_asked_74 : decode cX0_asked 74 = .ok (.invokestatic 27, 3) := dk_184 0 27 (dk_at dksX0_asked_3 3 rfl rfl)
theorem dX0_asked_77 : decode cX0_asked 77 = .ok (.invokevirtual 10, 3) := dk_182 0 10 (dk_at dksX0_asked_3 6 rfl rfl)
theorem dX0_asked_80 : decode cX0_asked 80 = .ok (.iload 4, 2) := dk_21 4 (dk_at dksX0_asked_3 9 rfl rfl)
theorem dX0_asked_82 : decode cX0_asked 82 = .ok (.if_icmp .eq 5, 3) := dk_159 0 5 (dk_at dksX0_asked_3 11 rfl rfl)
theorem dX0_asked_85 : decode cX0_asked 85 = .ok (.iconst 0, 1) := dk_3 (dk_at dksX0_asked_3 14 rfl rfl)
theorem dX0_asked_86 : decode cX0_asked 86 = .ok (.ireturn, 1) := dk_172 (dk_at dksX0_asked_3 15 rfl rfl)
theorem dX0_asked_87 : decode cX0_asked 87 = .ok (.iinc 5 1, 3) := dk_132 5 1 (dk_at dksX0_asked_3 16 rfl rfl)
theorem dX0_asked_90 : decode cX0_asked 90 = .ok (.goto (-43), 3) := dk_167 255 213 (dk_at dksX0_asked_3 19 rfl rfl)
theorem dX0_asked_93 : decode cX0_asked 93 = .ok (.aload_n 2, 1) := dk_44 (dk_at dksX0_asked_3 22 rfl rfl)
theorem dX0_asked_94 : decode cX0_asked 94 = .ok (.aload_n 0, 1) := dk_42 (dk_at dksX0_asked_3 23 rfl rfl)
theorem dX0_asked_95 : decode cX0_asked 95 = .ok (.iload_n 3, 1) := dk_29 (dk_at dksX0_asked_4 0 rfl rfl)
theorem dX0_asked_96 : decode cX0_asked 96 = .ok (.invokestatic 27, 3) := dk_184 0 27 (dk_at dksX0_asked_4 1 rfl rfl)
theorem dX0_asked_99 : decode cX0_asked 99 = .ok (.invokevirtual 14, 3) := dk_182 0 14 (dk_at dksX0_asked_4 4 rfl rfl)
theorem dX0_asked_102 : decode cX0_asked 102 = .ok (.iinc 3 1, 3) := dk_132 3 1 (dk_at dksX0_asked_4 7 rfl rfl)
theorem dX0_asked_105 : decode cX0_asked 105 = .ok (.goto (-87), 3) := dk_167 255 169 (dk_at dksX0_asked_4 10 rfl rfl)
theorem dX0_asked_108 : decode cX0_asked 108 = .ok (.iconst 0, 1) := dk_3 (dk_at dksX0_asked_4 13 rfl rfl)
theorem dX0_asked_109 : decode cX0_asked 109 = .ok (.istore_n 3, 1) := dk_62 (dk_at dksX0_asked_4 14 rfl rfl)
theorem dX0_asked_110 : decode cX0_asked 110 = .ok (.iload_n 3, 1) := dk_29 (dk_at dksX0_asked_4 15 rfl rfl)
theorem dX0_asked_111 : decode cX0_asked 111 = .ok (.bipush 64, 2) := dk_16 64 (dk_at dksX0_asked_4 16 rfl rfl)
theorem dX0_asked_113 : decode cX0_asked 113 = .ok (.if_icmp .ge 57, 3) := dk_162 0 57 (dk_at dksX0_asked_4 18 rfl rfl)
theorem dX0_asked_116 : decode cX0_asked 116 = .ok (.aload_n 1, 1) := dk_43 (dk_at dksX0_asked_4 21 rfl rfl)
theorem dX0_asked_117 : decode cX0_asked 117 = .ok (.aload_n 0, 1) := dk_42 (dk_at dksX0_asked_4 22 rfl rfl)
theorem dX0_asked_118 : decode cX0_asked 118 = .ok (.iload_n 3, 1) := dk_29 (dk_at dksX0_asked_4 23 rfl rfl)
theorem dX0_asked_119 : decode cX0_asked 119 = .ok (.invokestatic 27, 3) := dk_184 0 27 (dk_at dksX0_asked_5 0 rfl rfl)
theorem dX0_asked_122 : decode cX0_asked 122 = .ok (.invokevirtual 10, 3) := dk_182 0 10 (dk_at dksX0_asked_5 3 rfl rfl)
theorem dX0_asked_125 : decode cX0_asked 125 = .ok (.aload_n 2, 1) := dk_44 (dk_at dksX0_asked_5 6 rfl rfl)
theorem dX0_asked_126 : decode cX0_asked 126 = .ok (.aload_n 0, 1) := dk_42 (dk_at dksX0_asked_5 7 rfl rfl)
theorem dX0_asked_127 : decode cX0_asked 127 = .ok (.iload_n 3, 1) := dk_29 (dk_at dksX0_asked_5 8 rfl rfl)
theorem dX0_asked_128 : decode cX0_asked 128 = .ok (.invokestatic 27, 3) := dk_184 0 27 (dk_at dksX0_asked_5 9 rfl rfl)
theorem dX0_asked_131 : decode cX0_asked 131 = .ok (.invokevirtual 10, 3) := dk_182 0 10 (dk_at dksX0_asked_5 12 rfl rfl)
theorem dX0_asked_134 : decode cX0_asked 134 = .ok (.if_icmp .ne 28, 3) := dk_160 0 28 (dk_at dksX0_asked_5 15 rfl rfl)
theorem dX0_asked_137 : decode cX0_asked 137 = .ok (.aload_n 1, 1) := dk_43 (dk_at dksX0_asked_5 18 rfl rfl)
theorem dX0_asked_138 : decode cX0_asked 138 = .ok (.aload_n 0, 1) := dk_42 (dk_at dksX0_asked_5 19 rfl rfl)
theorem dX0_asked_139 : decode cX0_asked 139 = .ok (.iload_n 3, 1) := dk_29 (dk_at dksX0_asked_5 20 rfl rfl)
theorem dX0_asked_140 : decode cX0_asked 140 = .ok (.invokestatic 27, 3) := dk_184 0 27 (dk_at dksX0_asked_5 21 rfl rfl)
theorem dX0_asked_143 : decode cX0_asked 143 = .ok (.iconst (-1), 1) := dk_2 (dk_at dksX0_asked_6 0 rfl rfl)
theorem dX0_asked_144 : decode cX0_asked 144 = .ok (.ixor, 1) := dk_130 (dk_at dksX0_asked_6 1 rfl rfl)
theorem dX0_asked_145 : decode cX0_asked 145 = .ok (.invokevirtual 10, 3) := dk_182 0 10 (dk_at dksX0_asked_6 2 rfl rfl)
theorem dX0_asked_148 : decode cX0_asked 148 = .ok (.aload_n 2, 1) := dk_44 (dk_at dksX0_asked_6 5 rfl rfl)
theorem dX0_asked_149 : decode cX0_asked 149 = .ok (.aload_n 0, 1) := dk_42 (dk_at dksX0_asked_6 6 rfl rfl)
theorem dX0_asked_150 : decode cX0_asked 150 = .ok (.iload_n 3, 1) := dk_29 (dk_at dksX0_asked_6 7 rfl rfl)
theorem dX0_asked_151 : decode cX0_asked 151 = .ok (.invokestatic 27, 3) := dk_184 0 27 (dk_at dksX0_asked_6 8 rfl rfl)
theorem dX0_asked_154 : decode cX0_asked 154 = .ok (.iconst (-1), 1) := dk_2 (dk_at dksX0_asked_6 11 rfl rfl)
theorem dX0_asked_155 : decode cX0_asked 155 = .ok (.ixor, 1) := dk_130 (dk_at dksX0_asked_6 12 rfl rfl)
theorem dX0_asked_156 : decode cX0_asked 156 = .ok (.invokevirtual 10, 3) := dk_182 0 10 (dk_at dksX0_asked_6 13 rfl rfl)
theorem dX0_asked_159 : decode cX0_asked 159 = .ok (.if_icmp .eq 5, 3) := dk_159 0 5 (dk_at dksX0_asked_6 16 rfl rfl)
theorem dX0_asked_162 : decode cX0_asked 162 = .ok (.iconst 0, 1) := dk_3 (dk_at dksX0_asked_6 19 rfl rfl)
theorem dX0_asked_163 : decode cX0_asked 163 = .ok (.ireturn, 1) := dk_172 (dk_at dksX0_asked_6 20 rfl rfl)
theorem dX0_asked_164 : decode cX0_asked 164 = .ok (.iinc 3 1, 3) := dk_132 3 1 (dk_at dksX0_asked_6 21 rfl rfl)
theorem dX0_asked_167 : decode cX0_asked 167 = .ok (.goto (-57), 3) := dk_167 255 199 (dk_at dksX0_asked_7 0 rfl rfl)
theorem dX0_asked_170 : decode cX0_asked 170 = .ok (.new 7, 3) := dk_187 0 7 (dk_at dksX0_asked_7 3 rfl rfl)
theorem dX0_asked_173 : decode cX0_asked 173 = .ok (.dup, 1) := dk_89 (dk_at dksX0_asked_7 6 rfl rfl)
theorem dX0_asked_174 : decode cX0_asked 174 = .ok (.invokespecial 9, 3) := dk_183 0 9 (dk_at dksX0_asked_7 7 rfl rfl)
theorem dX0_asked_177 : decode cX0_asked 177 = .ok (.aload_n 0, 1) := dk_42 (dk_at dksX0_asked_7 10 rfl rfl)
theorem dX0_asked_178 : decode cX0_asked 178 = .ok (.iconst 0, 1) := dk_3 (dk_at dksX0_asked_7 11 rfl rfl)
theorem dX0_asked_179 : decode cX0_asked 179 = .ok (.invokestatic 27, 3) := dk_184 0 27 (dk_at dksX0_asked_7 12 rfl rfl)
theorem dX0_asked_182 : decode cX0_asked 182 = .ok (.invokevirtual 10, 3) := dk_182 0 10 (dk_at dksX0_asked_7 15 rfl rfl)
theorem dX0_asked_185 : decode cX0_asked 185 = .ok (.ifCond .ne 7, 3) := dk_154 0 7 (dk_at dksX0_asked_7 18 rfl rfl)
theorem dX0_asked_188 : decode cX0_asked 188 = .ok (.iconst 1, 1) := dk_4 (dk_at dksX0_asked_7 21 rfl rfl)
theorem dX0_asked_189 : decode cX0_asked 189 = .ok (.goto 4, 3) := dk_167 0 4 (dk_at dksX0_asked_8 0 rfl rfl)
theorem dX0_asked_192 : decode cX0_asked 192 = .ok (.iconst 0, 1) := dk_3 (dk_at dksX0_asked_8 3 rfl rfl)
theorem dX0_asked_193 : decode cX0_asked 193 = .ok (.ireturn, 1) := dk_172 (dk_at dksX0_asked_8 4 rfl rfl)
theorem q1 : (Jvm.Cond.initialized "SketchDeskLaw") ∈ lw_all := lw_g (lw_at lw_m0 0 rfl) rfl
theorem q14 : (Jvm.Cond.classLink "SketchDeskLaw" (7 : Nat) "SketchDesk") ∈ lw_all := lw_g (lw_at lw_m0 13 rfl) rfl
theorem q16 : (Jvm.Cond.methodLink "SketchDeskLaw" (9 : Nat) ({ cls := "SketchDesk", name := "<init>", desc := "()V" } : Jvm.MethodName)) ∈ lw_all := lw_g (lw_at lw_m0 15 rfl) rfl
theorem q135 : (Jvm.Cond.methodLink "SketchDeskLaw" (14 : Nat) ({ cls := "SketchDesk", name := "count", desc := "(I)V" } : Jvm.MethodName)) ∈ lw_all := lw_g (lw_at lw_m0 134 rfl) rfl
theorem q206 : (Jvm.Cond.methodLink "SketchDeskLaw" (10 : Nat) ({ cls := "SketchDesk", name := "told", desc := "(I)I" } : Jvm.MethodName)) ∈ lw_all := lw_g (lw_at lw_m0 205 rfl) rfl
theorem q215 : (Jvm.Cond.methodLink "SketchDeskLaw" (18 : Nat) ({ cls := "SketchDeskLaw", name := "apart", desc := "([I)Z" } : Jvm.MethodName)) ∈ lw_all := lw_g (lw_at lw_m0 214 rfl) rfl
theorem q216 : (Jvm.Cond.static ({ cls := "SketchDeskLaw", name := "apart", desc := "([I)Z" } : Jvm.MethodName)) ∈ lw_all := lw_g (lw_at lw_m0 215 rfl) rfl
theorem q217 : (Jvm.Cond.code ({ cls := "SketchDeskLaw", name := "apart", desc := "([I)Z" } : Jvm.MethodName) method_4_code (5 : Nat) (Option.some Jvm.ClassFile.FieldType.boolean)) ∈ lw_all := lw_g (lw_at lw_m0 216 rfl) rfl
theorem q218 : (Jvm.Cond.methodLink "SketchDeskLaw" (27 : Nat) ({ cls := "SketchDeskLaw", name := "cell", desc := "([II)I" } : Jvm.MethodName)) ∈ lw_all := lw_g (lw_at lw_m0 217 rfl) rfl
theorem q219 : (Jvm.Cond.static ({ cls := "SketchDeskLaw", name := "cell", desc := "([II)I" } : Jvm.MethodName)) ∈ lw_all := lw_g (lw_at lw_m0 218 rfl) rfl
theorem q220 : (Jvm.Cond.code ({ cls := "SketchDeskLaw", name := "cell", desc := "([II)I" } : Jvm.MethodName) method_3_code (2 : Nat) (Option.some Jvm.ClassFile.FieldType.int)) ∈ lw_all := lw_g (lw_at lw_m0 219 rfl) rfl
theorem q221 : (Jvm.Cond.methodLink "SketchDeskLaw" (24 : Nat) ({ cls := "SketchDeskLaw", name := "asked", desc := "([I)Z" } : Jvm.MethodName)) ∈ lw_all := lw_g (lw_at lw_m0 220 rfl) rfl
theorem q222 : (Jvm.Cond.static ({ cls := "SketchDeskLaw", name := "asked", desc := "([I)Z" } : Jvm.MethodName)) ∈ lw_all := lw_g (lw_at lw_m0 221 rfl) rfl
theorem q223 : (Jvm.Cond.code ({ cls := "SketchDeskLaw", name := "asked", desc := "([I)Z" } : Jvm.MethodName) method_5_code (6 : Nat) (Option.some Jvm.ClassFile.FieldType.boolean)) ∈ lw_all := lw_g (lw_at lw_m0 222 rfl) rfl
/-! SketchDesk -/
set_option maxRecDepth 100000
def RX1 : String := "SketchDesk"
def TX1 : u_T := fun k => match k with
  | _ => ("SketchDesk", "sketch", "LFrequencySketch;", true)
def tyX1 : Nat → FieldType := fun k => match k with
  | _ => .object "FrequencySketch"
abbrev wsX10 : List Cond := u_ws RX1 TX1 1
theorem nmX1 : ∀ a, a < 1 → ∀ b, b < 1 → a ≠ b → (TX1 a).2.1 ≠ (TX1 b).2.1 := by decide +kernel
theorem tyX1_ok : ∀ k, k < 1 → parseFieldDescriptor (TX1 k).2.2.1 = some (tyX1 k) := by decide +kernel
abbrev cX1_init : ByteArray := prog_3_method_1_code
def yX1_init : MethodName := ⟨RX1, "<init>", "()V"⟩
def dkwX1_init_1 : List UInt8 := [182, 0, 18, 177]
abbrev dktX1_init_1 : List UInt8 := dkwX1_init_1 ++ []
def dkwX1_init_0 : List UInt8 := [42, 183, 0, 1, 42, 187, 0, 7, 89, 183, 0, 9, 181, 0, 10, 42, 180, 0, 10, 20, 0, 16]
abbrev dktX1_init_0 : List UInt8 := dkwX1_init_0 ++ dktX1_init_1
theorem dksX1_init_0 : cX1_init.data.toList.drop 0 = dktX1_init_0 := by decide +kernel
theorem dksX1_init_1 : cX1_init.data.toList.drop 22 = dktX1_init_1 := dk_seg dksX1_init_0 22 rfl rfl
theorem dX1_init_0 : decode cX1_init 0 = .ok (.aload_n 0, 1) := dk_42 (dk_at dksX1_init_0 0 rfl rfl)
theorem dX1_init_1 : decode cX1_init 1 = .ok (.invokespecial 1, 3) := dk_183 0 1 (dk_at dksX1_init_0 1 rfl rfl)
theorem dX1_init_4 : decode cX1_init 4 = .ok (.aload_n 0, 1) := dk_42 (dk_at dksX1_init_0 4 rfl rfl)
theorem dX1_init_5 : decode cX1_init 5 = .ok (.new 7, 3) := dk_187 0 7 (dk_at dksX1_init_0 5 rfl rfl)
theorem dX1_init_8 : decode cX1_init 8 = .ok (.dup, 1) := dk_89 (dk_at dksX1_init_0 8 rfl rfl)
theorem dX1_init_9 : decode cX1_init 9 = .ok (.invokespecial 9, 3) := dk_183 0 9 (dk_at dksX1_init_0 9 rfl rfl)
theorem dX1_init_12 : decode cX1_init 12 = .ok (.putfield 10, 3) := dk_181 0 10 (dk_at dksX1_init_0 12 rfl rfl)
theorem dX1_init_15 : decode cX1_init 15 = .ok (.aload_n 0, 1) := dk_42 (dk_at dksX1_init_0 15 rfl rfl)
theorem dX1_init_16 : decode cX1_init 16 = .ok (.getfield 10, 3) := dk_180 0 10 (dk_at dksX1_init_0 16 rfl rfl)
theorem dX1_init_19 : decode cX1_init 19 = .ok (.ldc2_w 16, 3) := dk_20 0 16 (dk_at dksX1_init_0 19 rfl rfl)
theorem dX1_init_22 : decode cX1_init 22 = .ok (.invokevirtual 18, 3) := dk_182 0 18 (dk_at dksX1_init_1 0 rfl rfl)
theorem dX1_init_25 : decode cX1_init 25 = .ok (.return_, 1) := dk_177 (dk_at dksX1_init_1 3 rfl rfl)
abbrev cX1_count : ByteArray := prog_3_method_2_code
def yX1_count : MethodName := ⟨RX1, "count", "(I)V"⟩
def dkwX1_count_0 : List UInt8 := [42, 180, 0, 10, 27, 184, 0, 22, 182, 0, 28, 177]
abbrev dktX1_count_0 : List UInt8 := dkwX1_count_0 ++ []
theorem dksX1_count_0 : cX1_count.data.toList.drop 0 = dktX1_count_0 := by decide +kernel
theorem dX1_count_0 : decode cX1_count 0 = .ok (.aload_n 0, 1) := dk_42 (dk_at dksX1_count_0 0 rfl rfl)
theorem dX1_count_1 : decode cX1_count 1 = .ok (.getfield 10, 3) := dk_180 0 10 (dk_at dksX1_count_0 1 rfl rfl)
theorem dX1_count_4 : decode cX1_count 4 = .ok (.iload_n 1, 1) := dk_27 (dk_at dksX1_count_0 4 rfl rfl)
theorem dX1_count_5 : decode cX1_count 5 = .ok (.invokestatic 22, 3) := dk_184 0 22 (dk_at dksX1_count_0 5 rfl rfl)
theorem dX1_count_8 : decode cX1_count 8 = .ok (.invokevirtual 28, 3) := dk_182 0 28 (dk_at dksX1_count_0 8 rfl rfl)
theorem dX1_count_11 : decode cX1_count 11 = .ok (.return_, 1) := dk_177 (dk_at dksX1_count_0 11 rfl rfl)
abbrev cX1_told : ByteArray := prog_3_method_3_code
def yX1_told : MethodName := ⟨RX1, "told", "(I)I"⟩
def dkwX1_told_0 : List UInt8 := [42, 180, 0, 10, 27, 184, 0, 22, 182, 0, 32, 172]
abbrev dktX1_told_0 : List UInt8 := dkwX1_told_0 ++ []
theorem dksX1_told_0 : cX1_told.data.toList.drop 0 = dktX1_told_0 := by decide +kernel
theorem dX1_told_0 : decode cX1_told 0 = .ok (.aload_n 0, 1) := dk_42 (dk_at dksX1_told_0 0 rfl rfl)
theorem dX1_told_1 : decode cX1_told 1 = .ok (.getfield 10, 3) := dk_180 0 10 (dk_at dksX1_told_0 1 rfl rfl)
theorem dX1_told_4 : decode cX1_told 4 = .ok (.iload_n 1, 1) := dk_27 (dk_at dksX1_told_0 4 rfl rfl)
theorem dX1_told_5 : decode cX1_told 5 = .ok (.invokestatic 22, 3) := dk_184 0 22 (dk_at dksX1_told_0 5 rfl rfl)
theorem dX1_told_8 : decode cX1_told 8 = .ok (.invokevirtual 32, 3) := dk_182 0 32 (dk_at dksX1_told_0 8 rfl rfl)
theorem dX1_told_11 : decode cX1_told 11 = .ok (.ireturn, 1) := dk_172 (dk_at dksX1_told_0 11 rfl rfl)
theorem q2 : (Jvm.Cond.initialized "SketchDesk") ∈ lw_all := lw_g (lw_at lw_m0 1 rfl) rfl
theorem q15 : (Jvm.Cond.instantiable "SketchDesk" (1 : Nat)) ∈ lw_all := lw_g (lw_at lw_m0 14 rfl) rfl
theorem q17 : (Jvm.Cond.instanceMethod ({ cls := "SketchDesk", name := "<init>", desc := "()V" } : Jvm.MethodName)) ∈ lw_all := lw_g (lw_at lw_m0 16 rfl) rfl
theorem q18 : (Jvm.Cond.code ({ cls := "SketchDesk", name := "<init>", desc := "()V" } : Jvm.MethodName) prog_3_method_1_code (1 : Nat) (Option.none : Option Jvm.ClassFile.FieldType)) ∈ lw_all := lw_g (lw_at lw_m0 17 rfl) rfl
theorem q19 : (Jvm.Cond.methodLink "SketchDesk" (1 : Nat) ({ cls := "java/lang/Object", name := "<init>", desc := "()V" } : Jvm.MethodName)) ∈ lw_all := lw_g (lw_at lw_m0 18 rfl) rfl
theorem q22 : (Jvm.Cond.classLink "SketchDesk" (7 : Nat) "FrequencySketch") ∈ lw_all := lw_g (lw_at lw_m0 21 rfl) rfl
theorem q24 : (Jvm.Cond.methodLink "SketchDesk" (9 : Nat) ({ cls := "FrequencySketch", name := "<init>", desc := "()V" } : Jvm.MethodName)) ∈ lw_all := lw_g (lw_at lw_m0 23 rfl) rfl
theorem q41 : (Jvm.Cond.constantLong "SketchDesk" (16 : Nat) (64 : Int64)) ∈ lw_all := lw_g (lw_at lw_m0 40 rfl) rfl
theorem q42 : (Jvm.Cond.methodLink "SketchDesk" (18 : Nat) ({ cls := "FrequencySketch", name := "ensureCapacity", desc := "(J)V" } : Jvm.MethodName)) ∈ lw_all := lw_g (lw_at lw_m0 41 rfl) rfl
theorem q130 : (Jvm.Cond.fieldLink "SketchDesk" (10 : Nat) "SketchDesk" "sketch" "LFrequencySketch;") ∈ lw_all := lw_g (lw_at lw_m0 129 rfl) rfl
theorem q131 : (Jvm.Cond.laysFinal "SketchDesk" "SketchDesk" "sketch" "LFrequencySketch;") ∈ lw_all := lw_g (lw_at lw_m0 130 rfl) rfl
theorem q132 : (Jvm.Cond.soleField "SketchDesk" "sketch") ∈ lw_all := lw_g (lw_at lw_m0 131 rfl) rfl
theorem q133 : (Jvm.Cond.superclass "SketchDesk" "java/lang/Object") ∈ lw_all := lw_g (lw_at lw_m0 132 rfl) rfl
theorem q136 : (Jvm.Cond.instanceMethod ({ cls := "SketchDesk", name := "count", desc := "(I)V" } : Jvm.MethodName)) ∈ lw_all := lw_g (lw_at lw_m0 135 rfl) rfl
theorem q137 : (Jvm.Cond.selects "SketchDesk" ({ cls := "SketchDesk", name := "count", desc := "(I)V" } : Jvm.MethodName) ({ cls := "SketchDesk", name := "count", desc := "(I)V" } : Jvm.MethodName)) ∈ lw_all := lw_g (lw_at lw_m0 136 rfl) rfl
theorem q138 : (Jvm.Cond.code ({ cls := "SketchDesk", name := "count", desc := "(I)V" } : Jvm.MethodName) prog_3_method_2_code (2 : Nat) (Option.none : Option Jvm.ClassFile.FieldType)) ∈ lw_all := lw_g (lw_at lw_m0 137 rfl) rfl
theorem q139 : (Jvm.Cond.methodLink "SketchDesk" (22 : Nat) ({ cls := "java/lang/Integer", name := "valueOf", desc := "(I)Ljava/lang/Integer;" } : Jvm.MethodName)) ∈ lw_all := lw_g (lw_at lw_m0 138 rfl) rfl
theorem q159 : (Jvm.Cond.methodLink "SketchDesk" (28 : Nat) ({ cls := "FrequencySketch", name := "increment", desc := "(Ljava/lang/Object;)V" } : Jvm.MethodName)) ∈ lw_all := lw_g (lw_at lw_m0 158 rfl) rfl
theorem q171 : (Jvm.Cond.selects "SketchDesk" ({ cls := "java/lang/Object", name := "hashCode", desc := "()I" } : Jvm.MethodName) ({ cls := "java/lang/Object", name := "hashCode", desc := "()I" } : Jvm.MethodName)) ∈ lw_all := lw_g (lw_at lw_m0 170 rfl) rfl
theorem q207 : (Jvm.Cond.instanceMethod ({ cls := "SketchDesk", name := "told", desc := "(I)I" } : Jvm.MethodName)) ∈ lw_all := lw_g (lw_at lw_m0 206 rfl) rfl
theorem q208 : (Jvm.Cond.selects "SketchDesk" ({ cls := "SketchDesk", name := "told", desc := "(I)I" } : Jvm.MethodName) ({ cls := "SketchDesk", name := "told", desc := "(I)I" } : Jvm.MethodName)) ∈ lw_all := lw_g (lw_at lw_m0 207 rfl) rfl
theorem q209 : (Jvm.Cond.code ({ cls := "SketchDesk", name := "told", desc := "(I)I" } : Jvm.MethodName) prog_3_method_3_code (2 : Nat) (Option.some Jvm.ClassFile.FieldType.int)) ∈ lw_all := lw_g (lw_at lw_m0 208 rfl) rfl
theorem q210 : (Jvm.Cond.methodLink "SketchDesk" (32 : Nat) ({ cls := "FrequencySketch", name := "frequency", desc := "(Ljava/lang/Object;)I" } : Jvm.MethodName)) ∈ lw_all := lw_g (lw_at lw_m0 209 rfl) rfl
theorem in_X1 : ∀ w ∈ wsX10, w ∈ lw_all := lw_in wsX10 [131] (by decide +kernel) (by decide +kernel)
/-! FrequencySketch -/
set_option maxRecDepth 100000
def RX2 : String := "FrequencySketch"
def TX2 : u_T := fun k => match k with
  | 0 => ("FrequencySketch", "sampleSize", "I", false)
  | 1 => ("FrequencySketch", "blockMask", "I", false)
  | 2 => ("FrequencySketch", "table", "[J", false)
  | _ => ("FrequencySketch", "size", "I", false)
def tyX2 : Nat → FieldType := fun k => match k with
  | 0 => .int
  | 1 => .int
  | 2 => .array .long
  | _ => .int
abbrev wsX20 : List Cond := u_ws RX2 TX2 4
theorem nmX2 : ∀ a, a < 4 → ∀ b, b < 4 → a ≠ b → (TX2 a).2.1 ≠ (TX2 b).2.1 := by decide +kernel
theorem tyX2_ok : ∀ k, k < 4 → parseFieldDescriptor (TX2 k).2.2.1 = some (tyX2 k) := by decide +kernel
abbrev cX2_init : ByteArray := prog_2_method_1_code
def yX2_init : MethodName := ⟨RX2, "<init>", "()V"⟩
theorem dX2_init_0 : decode cX2_init 0 = .ok (.aload_n 0, 1) := by decide +kernel
theorem dX2_init_1 : decode cX2_init 1 = .ok (.invokespecial 1, 3) := by decide +kernel
theorem dX2_init_4 : decode cX2_init 4 = .ok (.return_, 1) := by decide +kernel
abbrev cX2_ensureCapacity : ByteArray := prog_2_method_2_code
def yX2_ensureCapacity : MethodName := ⟨RX2, "ensureCapacity", "(J)V"⟩
def dkwX2_ensureCapacity_5 : List UInt8 := [21, 4, 181, 0, 37, 42, 3, 181, 0, 41, 177]
abbrev dktX2_ensureCapacity_5 : List UInt8 := dkwX2_ensureCapacity_5 ++ []
def dkwX2_ensureCapacity_4 : List UInt8 := [42, 29, 184, 0, 46, 188, 11, 181, 0, 33, 42, 42, 180, 0, 33, 190, 6, 124, 4, 100, 181, 0, 50, 42]
abbrev dktX2_ensureCapacity_4 : List UInt8 := dkwX2_ensureCapacity_4 ++ dktX2_ensureCapacity_5
def dkwX2_ensureCapacity_3 : List UInt8 := [42, 21, 4, 181, 0, 37, 42, 42, 180, 0, 41, 42, 180, 0, 37, 4, 100, 184, 0, 44, 181, 0, 41, 177]
abbrev dktX2_ensureCapacity_3 : List UInt8 := dkwX2_ensureCapacity_3 ++ dktX2_ensureCapacity_4
def dkwX2_ensureCapacity_2 : List UInt8 := [180, 0, 33, 198, 0, 45, 42, 180, 0, 33, 190, 29, 161, 0, 36, 21, 4, 42, 180, 0, 37, 159, 0, 26]
abbrev dktX2_ensureCapacity_2 : List UInt8 := dkwX2_ensureCapacity_2 ++ dktX2_ensureCapacity_3
def dkwX2_ensureCapacity_1 : List UInt8 := [17, 1, 0, 184, 0, 25, 62, 20, 0, 29, 29, 133, 105, 20, 0, 31, 184, 0, 17, 136, 54, 4, 42]
abbrev dktX2_ensureCapacity_1 : List UInt8 := dkwX2_ensureCapacity_1 ++ dktX2_ensureCapacity_2
def dkwX2_ensureCapacity_0 : List UInt8 := [31, 9, 148, 155, 0, 7, 4, 167, 0, 4, 3, 184, 0, 7, 31, 20, 0, 15, 184, 0, 17, 136]
abbrev dktX2_ensureCapacity_0 : List UInt8 := dkwX2_ensureCapacity_0 ++ dktX2_ensureCapacity_1
theorem dksX2_ensureCapacity_0 : cX2_ensureCapacity.data.toList.drop 0 = dktX2_ensureCapacity_0 := by decide +kernel
theorem dksX2_ensureCapacity_1 : cX2_ensureCapacity.data.toList.drop 22 = dktX2_ensureCapacity_1 := dk_seg dksX2_ensureCapacity_0 22 rfl rfl
theorem dksX2_ensureCapacity_2 : cX2_ensureCapacity.data.toList.drop 45 = dktX2_ensureCapacity_2 := dk_seg dksX2_ensureCapacity_1 23 rfl rfl
theorem dksX2_ensureCapacity_3 : cX2_ensureCapacity.data.toList.drop 69 = dktX2_ensureCapacity_3 := dk_seg dksX2_ensureCapacity_2 24 rfl rfl
theorem dksX2_ensureCapacity_4 : cX2_ensureCapacity.data.toList.drop 93 = dktX2_ensureCapacity_4 := dk_seg dksX2_ensureCapacity_3 24 rfl rfl
theorem dksX2_ensureCapacity_5 : cX2_ensureCapacity.data.toList.drop 117 = dktX2_ensureCapacity_5 := dk_seg dksX2_ensureCapacity_4 24 rfl rfl
theorem dX2_ensureCapacity_0 : decode cX2_ensureCapacity 0 = .ok (.lload_n 1, 1) := dk_31 (dk_at dksX2_ensureCapacity_0 0 rfl rfl)
theorem dX2_ensureCapacity_1 : decode cX2_ensureCapacity 1 = .ok (.lconst 0, 1) := dk_9 (dk_at dksX2_ensureCapacity_0 1 rfl rfl)
theorem dX2_ensureCapacity_2 : decode cX2_ensureCapacity 2 = .ok (.lcmp, 1) := dk_148 (dk_at dksX2_ensureCapacity_0 2 rfl rfl)
theorem dX2_ensureCapacity_3 : decode cX2_ensureCapacity 3 = .ok (.ifCond .lt 7, 3) := dk_155 0 7 (dk_at dksX2_ensureCapacity_0 3 rfl rfl)
theorem dX2_ensureCapacity_6 : decode cX2_ensureCapacity 6 = .ok (.iconst 1, 1) := dk_4 (dk_at dksX2_ensureCapacity_0 6 rfl rfl)
theorem dX2_ensureCapacity_7 : decode cX2_ensureCapacity 7 = .ok (.goto 4, 3) := dk_167 0 4 (dk_at dksX2_ensureCapacity_0 7 rfl rfl)
theorem dX2_ensureCapacity_10 : decode cX2_ensureCapacity 10 = .ok (.iconst 0, 1) := dk_3 (dk_at dksX2_ensureCapacity_0 10 rfl rfl)
theorem dX2_ensureCapacity_11 : decode cX2_ensureCapacity 11 = .ok (.invokestatic 7, 3) := dk_184 0 7 (dk_at dksX2_ensureCapacity_0 11 rfl rfl)
theorem dX2_ensureCapacity_14 : decode cX2_ensureCapacity 14 = .ok (.lload_n 1, 1) := dk_31 (dk_at dksX2_ensureCapacity_0 14 rfl rfl)
theorem dX2_ensureCapacity_15 : decode cX2_ensureCapacity 15 = .ok (.ldc2_w 15, 3) := dk_20 0 15 (dk_at dksX2_ensureCapacity_0 15 rfl rfl)
theorem dX2_ensureCapacity_18 : decode cX2_ensureCapacity 18 = .ok (.invokestatic 17, 3) := dk_184 0 17 (dk_at dksX2_ensureCapacity_0 18 rfl rfl)
theorem dX2_ensureCapacity_21 : decode cX2_ensureCapacity 21 = .ok (.l2i, 1) := dk_136 (dk_at dksX2_ensureCapacity_0 21 rfl rfl)
theorem dX2_ensureCapacity_22 : decode cX2_ensureCapacity 22 = .ok (.sipush 256, 3) := dk_17 1 0 (dk_at dksX2_ensureCapacity_1 0 rfl rfl)
theorem dX2_ensureCapacity_25 : decode cX2_ensureCapacity 25 = .ok (.invokestatic 25, 3) := dk_184 0 25 (dk_at dksX2_ensureCapacity_1 3 rfl rfl)
theorem dX2_ensureCapacity_28 : decode cX2_ensureCapacity 28 = .ok (.istore_n 3, 1) := dk_62 (dk_at dksX2_ensureCapacity_1 6 rfl rfl)
theorem dX2_ensureCapacity_29 : decode cX2_ensureCapacity 29 = .ok (.ldc2_w 29, 3) := dk_20 0 29 (dk_at dksX2_ensureCapacity_1 7 rfl rfl)
theorem dX2_ensureCapacity_32 : decode cX2_ensureCapacity 32 = .ok (.iload_n 3, 1) := dk_29 (dk_at dksX2_ensureCapacity_1 10 rfl rfl)
theorem dX2_ensureCapacity_33 : decode cX2_ensureCapacity 33 = .ok (.i2l, 1) := dk_133 (dk_at dksX2_ensureCapacity_1 11 rfl rfl)
theorem dX2_ensureCapacity_34 : decode cX2_ensureCapacity 34 = .ok (.lmul, 1) := dk_105 (dk_at dksX2_ensureCapacity_1 12 rfl rfl)
theorem dX2_ensureCapacity_35 : decode cX2_ensureCapacity 35 = .ok (.ldc2_w 31, 3) := dk_20 0 31 (dk_at dksX2_ensureCapacity_1 13 rfl rfl)
theorem dX2_ensureCapacity_38 : decode cX2_ensureCapacity 38 = .ok (.invokestatic 17, 3) := dk_184 0 17 (dk_at dksX2_ensureCapacity_1 16 rfl rfl)
theorem dX2_ensureCapacity_41 : decode cX2_ensureCapacity 41 = .ok (.l2i, 1) := dk_136 (dk_at dksX2_ensureCapacity_1 19 rfl rfl)
theorem dX2_ensureCapacity_42 : decode cX2_ensureCapacity 42 = .ok (.istore 4, 2) := dk_54 4 (dk_at dksX2_ensureCapacity_1 20 rfl rfl)
theorem dX2_ensureCapacity_44 : decode cX2_ensureCapacity 44 = .ok (.aload_n 0, 1) := dk_42 (dk_at dksX2_ensureCapacity_1 22 rfl rfl)
theorem dX2_ensureCapacity_45 : decode cX2_ensureCapacity 45 = .ok (.getfield 33, 3) := dk_180 0 33 (dk_at dksX2_ensureCapacity_2 0 rfl rfl)
theorem dX2_ensureCapacity_48 : decode cX2_ensureCapacity 48 = .ok (.ifnull 45, 3) := dk_198 0 45 (dk_at dksX2_ensureCapacity_2 3 rfl rfl)
theorem dX2_ensureCapacity_51 : decode cX2_ensureCapacity 51 = .ok (.aload_n 0, 1) := dk_42 (dk_at dksX2_ensureCapacity_2 6 rfl rfl)
theorem dX2_ensureCapacity_52 : decode cX2_ensureCapacity 52 = .ok (.getfield 33, 3) := dk_180 0 33 (dk_at dksX2_ensureCapacity_2 7 rfl rfl)
theorem dX2_ensureCapacity_55 : decode cX2_ensureCapacity 55 = .ok (.arraylength, 1) := dk_190 (dk_at dksX2_ensureCapacity_2 10 rfl rfl)
theorem dX2_ensureCapacity_56 : decode cX2_ensureCapacity 56 = .ok (.iload_n 3, 1) := dk_29 (dk_at dksX2_ensureCapacity_2 11 rfl rfl)
theorem dX2_ensureCapacity_57 : decode cX2_ensureCapacity 57 = .ok (.if_icmp .lt 36, 3) := dk_161 0 36 (dk_at dksX2_ensureCapacity_2 12 rfl rfl)
theorem dX2_ensureCapacity_60 : decode cX2_ensureCapacity 60 = .ok (.iload 4, 2) := dk_21 4 (dk_at dksX2_ensureCapacity_2 15 rfl rfl)
theorem dX2_ensureCapacity_62 : decode cX2_ensureCapacity 62 = .ok (.aload_n 0, 1) := dk_42 (dk_at dksX2_ensureCapacity_2 17 rfl rfl)
theorem dX2_ensureCapacity_63 : decode cX2_ensureCapacity 63 = .ok (.getfield 37, 3) := dk_180 0 37 (dk_at dksX2_ensureCapacity_2 18 rfl rfl)
theorem dX2_ensureCapacity_66 : decode cX2_ensureCapacity 66 = .ok (.if_icmp .eq 26, 3) := dk_159 0 26 (dk_at dksX2_ensureCapacity_2 21 rfl rfl)
theorem dX2_ensureCapacity_69 : decode cX2_ensureCapacity 69 = .ok (.aload_n 0, 1) := dk_42 (dk_at dksX2_ensureCapacity_3 0 rfl rfl)
theorem dX2_ensureCapacity_70 : decode cX2_ensureCapacity 70 = .ok (.iload 4, 2) := dk_21 4 (dk_at dksX2_ensureCapacity_3 1 rfl rfl)
theorem dX2_ensureCapacity_72 : decode cX2_ensureCapacity 72 = .ok (.putfield 37, 3) := dk_181 0 37 (dk_at dksX2_ensureCapacity_3 3 rfl rfl)
theorem dX2_ensureCapacity_75 : decode cX2_ensureCapacity 75 = .ok (.aload_n 0, 1) := dk_42 (dk_at dksX2_ensureCapacity_3 6 rfl rfl)
theorem dX2_ensureCapacity_76 : decode cX2_ensureCapacity 76 = .ok (.aload_n 0, 1) := dk_42 (dk_at dksX2_ensureCapacity_3 7 rfl rfl)
theorem dX2_ensureCapacity_77 : decode cX2_ensureCapacity 77 = .ok (.getfield 41, 3) := dk_180 0 41 (dk_at dksX2_ensureCapacity_3 8 rfl rfl)
theorem dX2_ensureCapacity_80 : decode cX2_ensureCapacity 80 = .ok (.aload_n 0, 1) := dk_42 (dk_at dksX2_ensureCapacity_3 11 rfl rfl)
theorem dX2_ensureCapacity_81 : decode cX2_ensureCapacity 81 = .ok (.getfield 37, 3) := dk_180 0 37 (dk_at dksX2_ensureCapacity_3 12 rfl rfl)
theorem dX2_ensureCapacity_84 : decode cX2_ensureCapacity 84 = .ok (.iconst 1, 1) := dk_4 (dk_at dksX2_ensureCapacity_3 15 rfl rfl)
theorem dX2_ensureCapacity_85 : decode cX2_ensureCapacity 85 = .ok (.isub, 1) := dk_100 (dk_at dksX2_ensureCapacity_3 16 rfl rfl)
theorem dX2_ensureCapacity_86 : decode cX2_ensureCapacity 86 = .ok (.invokestatic 44, 3) := dk_184 0 44 (dk_at dksX2_ensureCapacity_3 17 rfl rfl)
theorem dX2_ensureCapacity_89 : decode cX2_ensureCapacity 89 = .ok (.putfield 41, 3) := dk_181 0 41 (dk_at dksX2_ensureCapacity_3 20 rfl rfl)
theorem dX2_ensureCapacity_92 : decode cX2_ensureCapacity 92 = .ok (.return_, 1) := dk_177 (dk_at dksX2_ensureCapacity_3 23 rfl rfl)
theorem dX2_ensureCapacity_93 : decode cX2_ensureCapacity 93 = .ok (.aload_n 0, 1) := dk_42 (dk_at dksX2_ensureCapacity_4 0 rfl rfl)
theorem dX2_ensureCapacity_94 : decode cX2_ensureCapacity 94 = .ok (.iload_n 3, 1) := dk_29 (dk_at dksX2_ensureCapacity_4 1 rfl rfl)
theorem dX2_ensureCapacity_95 : decode cX2_ensureCapacity 95 = .ok (.invokestatic 46, 3) := dk_184 0 46 (dk_at dksX2_ensureCapacity_4 2 rfl rfl)
theorem dX2_ensureCapacity_98 : decode cX2_ensureCapacity 98 = .ok (.newarray .long, 2) := dk_188_11 (dk_at dksX2_ensureCapacity_4 5 rfl rfl)
theorem dX2_ensureCapacity_100 : decode cX2_ensureCapacity 100 = .ok (.putfield 33, 3) := dk_181 0 33 (dk_at dksX2_ensureCapacity_4 7 rfl rfl)
theorem dX2_ensureCapacity_103 : decode cX2_ensureCapacity 103 = .ok (.aload_n 0, 1) := dk_42 (dk_at dksX2_ensureCapacity_4 10 rfl rfl)
theorem dX2_ensureCapacity_104 : decode cX2_ensureCapacity 104 = .ok (.aload_n 0, 1) := dk_42 (dk_at dksX2_ensureCapacity_4 11 rfl rfl)
theorem dX2_ensureCapacity_105 : decode cX2_ensureCapacity 105 = .ok (.getfield 33, 3) := dk_180 0 33 (dk_at dksX2_ensureCapacity_4 12 rfl rfl)
theorem dX2_ensureCapacity_108 : decode cX2_ensureCapacity 108 = .ok (.arraylength, 1) := dk_190 (dk_at dksX2_ensureCapacity_4 15 rfl rfl)
theorem dX2_ensureCapacity_109 : decode cX2_ensureCapacity 109 = .ok (.iconst 3, 1) := dk_6 (dk_at dksX2_ensureCapacity_4 16 rfl rfl)
theorem dX2_ensureCapacity_110 : decode cX2_ensureCapacity 110 = .ok (.iushr, 1) := dk_124 (dk_at dksX2_ensureCapacity_4 17 rfl rfl)
theorem dX2_ensureCapacity_111 : decode cX2_ensureCapacity 111 = .ok (.iconst 1, 1) := dk_4 (dk_at dksX2_ensureCapacity_4 18 rfl rfl)
theorem dX2_ensureCapacity_112 : decode cX2_ensureCapacity 112 = .ok (.isub, 1) := dk_100 (dk_at dksX2_ensureCapacity_4 19 rfl rfl)
theorem dX2_ensureCapacity_113 : decode cX2_ensureCapacity 113 = .ok (.putfield 50, 3) := dk_181 0 50 (dk_at dksX2_ensureCapacity_4 20 rfl rfl)
theorem dX2_ensureCapacity_116 : decode cX2_ensureCapacity 116 = .ok (.aload_n 0, 1) := dk_42 (dk_at dksX2_ensureCapacity_4 23 rfl rfl)
theorem dX2_ensureCapacity_117 : decode cX2_ensureCapacity 117 = .ok (.iload 4, 2) := dk_21 4 (dk_at dksX2_ensureCapacity_5 0 rfl rfl)
theorem dX2_ensureCapacity_119 : decode cX2_ensureCapacity 119 = .ok (.putfield 37, 3) := dk_181 0 37 (dk_at dksX2_ensureCapacity_5 2 rfl rfl)
theorem dX2_ensureCapacity_122 : decode cX2_ensureCapacity 122 = .ok (.aload_n 0, 1) := dk_42 (dk_at dksX2_ensureCapacity_5 5 rfl rfl)
theorem dX2_ensureCapacity_123 : decode cX2_ensureCapacity 123 = .ok (.iconst 0, 1) := dk_3 (dk_at dksX2_ensureCapacity_5 6 rfl rfl)
theorem dX2_ensureCapacity_124 : decode cX2_ensureCapacity 124 = .ok (.putfield 41, 3) := dk_181 0 41 (dk_at dksX2_ensureCapacity_5 7 rfl rfl)
theorem dX2_ensureCapacity_127 : decode cX2_ensureCapacity 127 = .ok (.return_, 1) := dk_177 (dk_at dksX2_ensureCapacity_5 10 rfl rfl)
abbrev cX2_increment : ByteArray := prog_2_method_5_code
def yX2_increment : MethodName := ⟨RX2, "increment", "(Ljava/lang/Object;)V"⟩
def dkwX2_increment_8 : List UInt8 := [180, 0, 37, 160, 0, 7, 42, 182, 0, 74, 177]
abbrev dktX2_increment_8 : List UInt8 := dkwX2_increment_8 ++ []
def dkwX2_increment_7 : List UInt8 := [182, 0, 70, 128, 54, 17, 21, 17, 153, 0, 25, 42, 89, 180, 0, 41, 4, 96, 90, 181, 0, 41, 42]
abbrev dktX2_increment_7 : List UInt8 := dkwX2_increment_7 ++ dktX2_increment_8
def dkwX2_increment_6 : List UInt8 := [21, 14, 21, 10, 182, 0, 70, 128, 42, 21, 15, 21, 11, 182, 0, 70, 128, 42, 21, 16, 21, 12]
abbrev dktX2_increment_6 : List UInt8 := dkwX2_increment_6 ++ dktX2_increment_7
def dkwX2_increment_5 : List UInt8 := [54, 15, 21, 4, 21, 8, 4, 126, 96, 16, 6, 96, 54, 16, 42, 21, 13, 21, 9, 182, 0, 70, 42]
abbrev dktX2_increment_5 : List UInt8 := dkwX2_increment_5 ++ dktX2_increment_6
def dkwX2_increment_4 : List UInt8 := [96, 54, 13, 21, 4, 21, 6, 4, 126, 96, 5, 96, 54, 14, 21, 4, 21, 7, 4, 126, 96, 7, 96]
abbrev dktX2_increment_4 : List UInt8 := dkwX2_increment_4 ++ dktX2_increment_5
def dkwX2_increment_3 : List UInt8 := [21, 7, 4, 124, 16, 15, 126, 54, 11, 21, 8, 4, 124, 16, 15, 126, 54, 12, 21, 4, 21, 5, 4, 126]
abbrev dktX2_increment_3 : List UInt8 := dkwX2_increment_3 ++ dktX2_increment_4
def dkwX2_increment_2 : List UInt8 := [16, 24, 124, 54, 8, 21, 5, 4, 124, 16, 15, 126, 54, 9, 21, 6, 4, 124, 16, 15, 126, 54, 10]
abbrev dktX2_increment_2 : List UInt8 := dkwX2_increment_2 ++ dktX2_increment_3
def dkwX2_increment_1 : List UInt8 := [180, 0, 50, 126, 6, 120, 54, 4, 29, 54, 5, 29, 16, 8, 124, 54, 6, 29, 16, 16, 124, 54, 7, 29]
abbrev dktX2_increment_1 : List UInt8 := dkwX2_increment_1 ++ dktX2_increment_2
def dkwX2_increment_0 : List UInt8 := [42, 182, 0, 53, 153, 0, 4, 177, 43, 182, 0, 58, 184, 0, 62, 61, 28, 184, 0, 65, 62, 28, 42]
abbrev dktX2_increment_0 : List UInt8 := dkwX2_increment_0 ++ dktX2_increment_1
theorem dksX2_increment_0 : cX2_increment.data.toList.drop 0 = dktX2_increment_0 := by decide +kernel
theorem dksX2_increment_1 : cX2_increment.data.toList.drop 23 = dktX2_increment_1 := dk_seg dksX2_increment_0 23 rfl rfl
theorem dksX2_increment_2 : cX2_increment.data.toList.drop 47 = dktX2_increment_2 := dk_seg dksX2_increment_1 24 rfl rfl
theorem dksX2_increment_3 : cX2_increment.data.toList.drop 70 = dktX2_increment_3 := dk_seg dksX2_increment_2 23 rfl rfl
theorem dksX2_increment_4 : cX2_increment.data.toList.drop 94 = dktX2_increment_4 := dk_seg dksX2_increment_3 24 rfl rfl
theorem dksX2_increment_5 : cX2_increment.data.toList.drop 117 = dktX2_increment_5 := dk_seg dksX2_increment_4 23 rfl rfl
theorem dksX2_increment_6 : cX2_increment.data.toList.drop 140 = dktX2_increment_6 := dk_seg dksX2_increment_5 23 rfl rfl
theorem dksX2_increment_7 : cX2_increment.data.toList.drop 162 = dktX2_increment_7 := dk_seg dksX2_increment_6 22 rfl rfl
theorem dksX2_increment_8 : cX2_increment.data.toList.drop 185 = dktX2_increment_8 := dk_seg dksX2_increment_7 23 rfl rfl
theorem dX2_increment_0 : decode cX2_increment 0 = .ok (.aload_n 0, 1) := dk_42 (dk_at dksX2_increment_0 0 rfl rfl)
theorem dX2_increment_1 : decode cX2_increment 1 = .ok (.invokevirtual 53, 3) := dk_182 0 53 (dk_at dksX2_increment_0 1 rfl rfl)
theorem dX2_increment_4 : decode cX2_increment 4 = .ok (.ifCond .eq 4, 3) := dk_153 0 4 (dk_at dksX2_increment_0 4 rfl rfl)
theorem dX2_increment_7 : decode cX2_increment 7 = .ok (.return_, 1) := dk_177 (dk_at dksX2_increment_0 7 rfl rfl)
theorem dX2_increment_8 : decode cX2_increment 8 = .ok (.aload_n 1, 1) := dk_43 (dk_at dksX2_increment_0 8 rfl rfl)
theorem dX2_increment_9 : decode cX2_increment 9 = .ok (.invokevirtual 58, 3) := dk_182 0 58 (dk_at dksX2_increment_0 9 rfl rfl)
theorem dX2_increment_12 : decode cX2_increment 12 = .ok (.invokestatic 62, 3) := dk_184 0 62 (dk_at dksX2_increment_0 12 rfl rfl)
theorem dX2_increment_15 : decode cX2_increment 15 = .ok (.istore_n 2, 1) := dk_61 (dk_at dksX2_increment_0 15 rfl rfl)
theorem dX2_increment_16 : decode cX2_increment 16 = .ok (.iload_n 2, 1) := dk_28 (dk_at dksX2_increment_0 16 rfl rfl)
theorem dX2_increment_17 : decode cX2_increment 17 = .ok (.invokestatic 65, 3) := dk_184 0 65 (dk_at dksX2_increment_0 17 rfl rfl)
theorem dX2_increment_20 : decode cX2_increment 20 = .ok (.istore_n 3, 1) := dk_62 (dk_at dksX2_increment_0 20 rfl rfl)
theorem dX2_increment_21 : decode cX2_increment 21 = .ok (.iload_n 2, 1) := dk_28 (dk_at dksX2_increment_0 21 rfl rfl)
theorem dX2_increment_22 : decode cX2_increment 22 = .ok (.aload_n 0, 1) := dk_42 (dk_at dksX2_increment_0 22 rfl rfl)
theorem dX2_increment_23 : decode cX2_increment 23 = .ok (.getfield 50, 3) := dk_180 0 50 (dk_at dksX2_increment_1 0 rfl rfl)
theorem dX2_increment_26 : decode cX2_increment 26 = .ok (.iand, 1) := dk_126 (dk_at dksX2_increment_1 3 rfl rfl)
theorem dX2_increment_27 : decode cX2_increment 27 = .ok (.iconst 3, 1) := dk_6 (dk_at dksX2_increment_1 4 rfl rfl)
theorem dX2_increment_28 : decode cX2_increment 28 = .ok (.ishl, 1) := dk_120 (dk_at dksX2_increment_1 5 rfl rfl)
theorem dX2_increment_29 : decode cX2_increment 29 = .ok (.istore 4, 2) := dk_54 4 (dk_at dksX2_increment_1 6 rfl rfl)
theorem dX2_increment_31 : decode cX2_increment 31 = .ok (.iload_n 3, 1) := dk_29 (dk_at dksX2_increment_1 8 rfl rfl)
theorem dX2_increment_32 : decode cX2_increment 32 = .ok (.istore 5, 2) := dk_54 5 (dk_at dksX2_increment_1 9 rfl rfl)
theorem dX2_increment_34 : decode cX2_increment 34 = .ok (.iload_n 3, 1) := dk_29 (dk_at dksX2_increment_1 11 rfl rfl)
theorem dX2_increment_35 : decode cX2_increment 35 = .ok (.bipush 8, 2) := dk_16 8 (dk_at dksX2_increment_1 12 rfl rfl)
theorem dX2_increment_37 : decode cX2_increment 37 = .ok (.iushr, 1) := dk_124 (dk_at dksX2_increment_1 14 rfl rfl)
theorem dX2_increment_38 : decode cX2_increment 38 = .ok (.istore 6, 2) := dk_54 6 (dk_at dksX2_increment_1 15 rfl rfl)
theorem dX2_increment_40 : decode cX2_increment 40 = .ok (.iload_n 3, 1) := dk_29 (dk_at dksX2_increment_1 17 rfl rfl)
theorem dX2_increment_41 : decode cX2_increment 41 = .ok (.bipush 16, 2) := dk_16 16 (dk_at dksX2_increment_1 18 rfl rfl)
theorem dX2_increment_43 : decode cX2_increment 43 = .ok (.iushr, 1) := dk_124 (dk_at dksX2_increment_1 20 rfl rfl)
theorem dX2_increment_44 : decode cX2_increment 44 = .ok (.istore 7, 2) := dk_54 7 (dk_at dksX2_increment_1 21 rfl rfl)
theorem dX2_increment_46 : decode cX2_increment 46 = .ok (.iload_n 3, 1) := dk_29 (dk_at dksX2_increment_1 23 rfl rfl)
theorem dX2_increment_47 : decode cX2_increment 47 = .ok (.bipush 24, 2) := dk_16 24 (dk_at dksX2_increment_2 0 rfl rfl)
theorem dX2_increment_49 : decode cX2_increment 49 = .ok (.iushr, 1) := dk_124 (dk_at dksX2_increment_2 2 rfl rfl)
theorem dX2_increment_50 : decode cX2_increment 50 = .ok (.istore 8, 2) := dk_54 8 (dk_at dksX2_increment_2 3 rfl rfl)
theorem dX2_increment_52 : decode cX2_increment 52 = .ok (.iload 5, 2) := dk_21 5 (dk_at dksX2_increment_2 5 rfl rfl)
theorem dX2_increment_54 : decode cX2_increment 54 = .ok (.iconst 1, 1) := dk_4 (dk_at dksX2_increment_2 7 rfl rfl)
theorem dX2_increment_55 : decode cX2_increment 55 = .ok (.iushr, 1) := dk_124 (dk_at dksX2_increment_2 8 rfl rfl)
theorem dX2_increment_56 : decode cX2_increment 56 = .ok (.bipush 15, 2) := dk_16 15 (dk_at dksX2_increment_2 9 rfl rfl)
theorem dX2_increment_58 : decode cX2_increment 58 = .ok (.iand, 1) := dk_126 (dk_at dksX2_increment_2 11 rfl rfl)
theorem dX2_increment_59 : decode cX2_increment 59 = .ok (.istore 9, 2) := dk_54 9 (dk_at dksX2_increment_2 12 rfl rfl)
theorem dX2_increment_61 : decode cX2_increment 61 = .ok (.iload 6, 2) := dk_21 6 (dk_at dksX2_increment_2 14 rfl rfl)
theorem dX2_increment_63 : decode cX2_increment 63 = .ok (.iconst 1, 1) := dk_4 (dk_at dksX2_increment_2 16 rfl rfl)
theorem dX2_increment_64 : decode cX2_increment 64 = .ok (.iushr, 1) := dk_124 (dk_at dksX2_increment_2 17 rfl rfl)
theorem dX2_increment_65 : decode cX2_increment 65 = .ok (.bipush 15, 2) := dk_16 15 (dk_at dksX2_increment_2 18 rfl rfl)
theorem dX2_increment_67 : decode cX2_increment 67 = .ok (.iand, 1) := dk_126 (dk_at dksX2_increment_2 20 rfl rfl)
theorem dX2_increment_68 : decode cX2_increment 68 = .ok (.istore 10, 2) := dk_54 10 (dk_at dksX2_increment_2 21 rfl rfl)
theorem dX2_increment_70 : decode cX2_increment 70 = .ok (.iload 7, 2) := dk_21 7 (dk_at dksX2_increment_3 0 rfl rfl)
theorem dX2_increment_72 : decode cX2_increment 72 = .ok (.iconst 1, 1) := dk_4 (dk_at dksX2_increment_3 2 rfl rfl)
theorem dX2_increment_73 : decode cX2_increment 73 = .ok (.iushr, 1) := dk_124 (dk_at dksX2_increment_3 3 rfl rfl)
theorem dX2_increment_74 : decode cX2_increment 74 = .ok (.bipush 15, 2) := dk_16 15 (dk_at dksX2_increment_3 4 rfl rfl)
theorem dX2_increment_76 : decode cX2_increment 76 = .ok (.iand, 1) := dk_126 (dk_at dksX2_increment_3 6 rfl rfl)
theorem dX2_increment_77 : decode cX2_increment 77 = .ok (.istore 11, 2) := dk_54 11 (dk_at dksX2_increment_3 7 rfl rfl)
theorem dX2_increment_79 : decode cX2_increment 79 = .ok (.iload 8, 2) := dk_21 8 (dk_at dksX2_increment_3 9 rfl rfl)
theorem dX2_increment_81 : decode cX2_increment 81 = .ok (.iconst 1, 1) := dk_4 (dk_at dksX2_increment_3 11 rfl rfl)
theorem dX2_increment_82 : decode cX2_increment 82 = .ok (.iushr, 1) := dk_124 (dk_at dksX2_increment_3 12 rfl rfl)
theorem dX2_increment_83 : decode cX2_increment 83 = .ok (.bipush 15, 2) := dk_16 15 (dk_at dksX2_increment_3 13 rfl rfl)
theorem dX2_increment_85 : decode cX2_increment 85 = .ok (.iand, 1) := dk_126 (dk_at dksX2_increment_3 15 rfl rfl)
theorem dX2_increment_86 : decode cX2_increment 86 = .ok (.istore 12, 2) := dk_54 12 (dk_at dksX2_increment_3 16 rfl rfl)
theorem dX2_increment_88 : decode cX2_increment 88 = .ok (.iload 4, 2) := dk_21 4 (dk_at dksX2_increment_3 18 rfl rfl)
theorem dX2_increment_90 : decode cX2_increment 90 = .ok (.iload 5, 2) := dk_21 5 (dk_at dksX2_increment_3 20 rfl rfl)
theorem dX2_increment_92 : decode cX2_increment 92 = .ok (.iconst 1, 1) := dk_4 (dk_at dksX2_increment_3 22 rfl rfl)
theorem dX2_increment_93 : decode cX2_increment 93 = .ok (.iand, 1) := dk_126 (dk_at dksX2_increment_3 23 rfl rfl)
theorem dX2_increment_94 : decode cX2_increment 94 = .ok (.iadd, 1) := dk_96 (dk_at dksX2_increment_4 0 rfl rfl)
theorem dX2_increment_95 : decode cX2_increment 95 = .ok (.istore 13, 2) := dk_54 13 (dk_at dksX2_increment_4 1 rfl rfl)
theorem dX2_increment_97 : decode cX2_increment 97 = .ok (.iload 4, 2) := dk_21 4 (dk_at dksX2_increment_4 3 rfl rfl)
theorem dX2_increment_99 : decode cX2_increment 99 = .ok (.iload 6, 2) := dk_21 6 (dk_at dksX2_increment_4 5 rfl rfl)
theorem dX2_increment_101 : decode cX2_increment 101 = .ok (.iconst 1, 1) := dk_4 (dk_at dksX2_increment_4 7 rfl rfl)
theorem dX2_increment_102 : decode cX2_increment 102 = .ok (.iand, 1) := dk_126 (dk_at dksX2_increment_4 8 rfl rfl)
theorem dX2_increment_103 : decode cX2_increment 103 = .ok (.iadd, 1) := dk_96 (dk_at dksX2_increment_4 9 rfl rfl)
theorem dX2_increment_104 : decode cX2_increment 104 = .ok (.iconst 2, 1) := dk_5 (dk_at dksX2_increment_4 10 rfl rfl)
theorem dX2_increment_105 : decode cX2_increment 105 = .ok (.iadd, 1) := dk_96 (dk_at dksX2_increment_4 11 rfl rfl)
theorem dX2_increment_106 : decode cX2_increment 106 = .ok (.istore 14, 2) := dk_54 14 (dk_at dksX2_increment_4 12 rfl rfl)
theorem dX2_increment_108 : decode cX2_increment 108 = .ok (.iload 4, 2) := dk_21 4 (dk_at dksX2_increment_4 14 rfl rfl)
theorem dX2_increment_110 : decode cX2_increment 110 = .ok (.iload 7, 2) := dk_21 7 (dk_at dksX2_increment_4 16 rfl rfl)
theorem dX2_increment_112 : decode cX2_increment 112 = .ok (.iconst 1, 1) := dk_4 (dk_at dksX2_increment_4 18 rfl rfl)
theorem dX2_increment_113 : decode cX2_increment 113 = .ok (.iand, 1) := dk_126 (dk_at dksX2_increment_4 19 rfl rfl)
theorem dX2_increment_114 : decode cX2_increment 114 = .ok (.iadd, 1) := dk_96 (dk_at dksX2_increment_4 20 rfl rfl)
theorem dX2_increment_115 : decode cX2_increment 115 = .ok (.iconst 4, 1) := dk_7 (dk_at dksX2_increment_4 21 rfl rfl)
theorem dX2_increment_116 : decode cX2_increment 116 = .ok (.iadd, 1) := dk_96 (dk_at dksX2_increment_4 22 rfl rfl)
theorem dX2_increment_117 : decode cX2_increment 117 = .ok (.istore 15, 2) := dk_54 15 (dk_at dksX2_increment_5 0 rfl rfl)
theorem dX2_increment_119 : decode cX2_increment 119 = .ok (.iload 4, 2) := dk_21 4 (dk_at dksX2_increment_5 2 rfl rfl)
theorem dX2_increment_121 : decode cX2_increment 121 = .ok (.iload 8, 2) := dk_21 8 (dk_at dksX2_increment_5 4 rfl rfl)
theorem dX2_increment_123 : decode cX2_increment 123 = .ok (.iconst 1, 1) := dk_4 (dk_at dksX2_increment_5 6 rfl rfl)
theorem dX2_increment_124 : decode cX2_increment 124 = .ok (.iand, 1) := dk_126 (dk_at dksX2_increment_5 7 rfl rfl)
theorem dX2_increment_125 : decode cX2_increment 125 = .ok (.iadd, 1) := dk_96 (dk_at dksX2_increment_5 8 rfl rfl)
theorem dX2_increment_126 : decode cX2_increment 126 = .ok (.bipush 6, 2) := dk_16 6 (dk_at dksX2_increment_5 9 rfl rfl)
theorem dX2_increment_128 : decode cX2_increment 128 = .ok (.iadd, 1) := dk_96 (dk_at dksX2_increment_5 11 rfl rfl)
theorem dX2_increment_129 : decode cX2_increment 129 = .ok (.istore 16, 2) := dk_54 16 (dk_at dksX2_increment_5 12 rfl rfl)
theorem dX2_increment_131 : decode cX2_increment 131 = .ok (.aload_n 0, 1) := dk_42 (dk_at dksX2_increment_5 14 rfl rfl)
theorem dX2_increment_132 : decode cX2_increment 132 = .ok (.iload 13, 2) := dk_21 13 (dk_at dksX2_increment_5 15 rfl rfl)
theorem dX2_increment_134 : decode cX2_increment 134 = .ok (.iload 9, 2) := dk_21 9 (dk_at dksX2_increment_5 17 rfl rfl)
theorem dX2_increment_136 : decode cX2_increment 136 = .ok (.invokevirtual 70, 3) := dk_182 0 70 (dk_at dksX2_increment_5 19 rfl rfl)
theorem dX2_increment_139 : decode cX2_increment 139 = .ok (.aload_n 0, 1) := dk_42 (dk_at dksX2_increment_5 22 rfl rfl)
theorem dX2_increment_140 : decode cX2_increment 140 = .ok (.iload 14, 2) := dk_21 14 (dk_at dksX2_increment_6 0 rfl rfl)
theorem dX2_increment_142 : decode cX2_increment 142 = .ok (.iload 10, 2) := dk_21 10 (dk_at dksX2_increment_6 2 rfl rfl)
theorem dX2_increment_144 : decode cX2_increment 144 = .ok (.invokevirtual 70, 3) := dk_182 0 70 (dk_at dksX2_increment_6 4 rfl rfl)
theorem dX2_increment_147 : decode cX2_increment 147 = .ok (.ior, 1) := dk_128 (dk_at dksX2_increment_6 7 rfl rfl)
theorem dX2_increment_148 : decode cX2_increment 148 = .ok (.aload_n 0, 1) := dk_42 (dk_at dksX2_increment_6 8 rfl rfl)
theorem dX2_increment_149 : decode cX2_increment 149 = .ok (.iload 15, 2) := dk_21 15 (dk_at dksX2_increment_6 9 rfl rfl)
theorem dX2_increment_151 : decode cX2_increment 151 = .ok (.iload 11, 2) := dk_21 11 (dk_at dksX2_increment_6 11 rfl rfl)
theorem dX2_increment_153 : decode cX2_increment 153 = .ok (.invokevirtual 70, 3) := dk_182 0 70 (dk_at dksX2_increment_6 13 rfl rfl)
theorem dX2_increment_156 : decode cX2_increment 156 = .ok (.ior, 1) := dk_128 (dk_at dksX2_increment_6 16 rfl rfl)
theorem dX2_increment_157 : decode cX2_increment 157 = .ok (.aload_n 0, 1) := dk_42 (dk_at dksX2_increment_6 17 rfl rfl)
theorem dX2_increment_158 : decode cX2_increment 158 = .ok (.iload 16, 2) := dk_21 16 (dk_at dksX2_increment_6 18 rfl rfl)
theorem dX2_increment_160 : decode cX2_increment 160 = .ok (.iload 12, 2) := dk_21 12 (dk_at dksX2_increment_6 20 rfl rfl)
theorem dX2_increment_162 : decode cX2_increment 162 = .ok (.invokevirtual 70, 3) := dk_182 0 70 (dk_at dksX2_increment_7 0 rfl rfl)
theorem dX2_increment_165 : decode cX2_increment 165 = .ok (.ior, 1) := dk_128 (dk_at dksX2_increment_7 3 rfl rfl)
theorem dX2_increment_166 : decode cX2_increment 166 = .ok (.istore 17, 2) := dk_54 17 (dk_at dksX2_increment_7 4 rfl rfl)
theorem dX2_increment_168 : decode cX2_increment 168 = .ok (.iload 17, 2) := dk_21 17 (dk_at dksX2_increment_7 6 rfl rfl)
theorem dX2_increment_170 : decode cX2_increment 170 = .ok (.ifCond .eq 25, 3) := dk_153 0 25 (dk_at dksX2_increment_7 8 rfl rfl)
theorem dX2_increment_173 : decode cX2_increment 173 = .ok (.aload_n 0, 1) := dk_42 (dk_at dksX2_increment_7 11 rfl rfl)
theorem dX2_increment_174 : decode cX2_increment 174 = .ok (.dup, 1) := dk_89 (dk_at dksX2_increment_7 12 rfl rfl)
theorem dX2_increment_175 : decode cX2_increment 175 = .ok (.getfield 41, 3) := dk_180 0 41 (dk_at dksX2_increment_7 13 rfl rfl)
theorem dX2_increment_178 : decode cX2_increment 178 = .ok (.iconst 1, 1) := dk_4 (dk_at dksX2_increment_7 16 rfl rfl)
theorem dX2_increment_179 : decode cX2_increment 179 = .ok (.iadd, 1) := dk_96 (dk_at dksX2_increment_7 17 rfl rfl)
theorem dX2_increment_180 : decode cX2_increment 180 = .ok (.dup_x1, 1) := dk_90 (dk_at dksX2_increment_7 18 rfl rfl)
theorem dX2_increment_181 : decode cX2_increment 181 = .ok (.putfield 41, 3) := dk_181 0 41 (dk_at dksX2_increment_7 19 rfl rfl)
theorem dX2_increment_184 : decode cX2_increment 184 = .ok (.aload_n 0, 1) := dk_42 (dk_at dksX2_increment_7 22 rfl rfl)
theorem dX2_increment_185 : decode cX2_increment 185 = .ok (.getfield 37, 3) := dk_180 0 37 (dk_at dksX2_increment_8 0 rfl rfl)
theorem dX2_increment_188 : decode cX2_increment 188 = .ok (.if_icmp .ne 7, 3) := dk_160 0 7 (dk_at dksX2_increment_8 3 rfl rfl)
theorem dX2_increment_191 : decode cX2_increment 191 = .ok (.aload_n 0, 1) := dk_42 (dk_at dksX2_increment_8 6 rfl rfl)
theorem dX2_increment_192 : decode cX2_increment 192 = .ok (.invokevirtual 74, 3) := dk_182 0 74 (dk_at dksX2_increment_8 7 rfl rfl)
theorem dX2_increment_195 : decode cX2_increment 195 = .ok (.return_, 1) := dk_177 (dk_at dksX2_increment_8 10 rfl rfl)
abbrev cX2_isNotInitialized : ByteArray := prog_2_method_3_code
def yX2_isNotInitialized : MethodName := ⟨RX2, "isNotInitialized", "()Z"⟩
def dkwX2_isNotInitialized_0 : List UInt8 := [42, 180, 0, 33, 199, 0, 7, 4, 167, 0, 4, 3, 172]
abbrev dktX2_isNotInitialized_0 : List UInt8 := dkwX2_isNotInitialized_0 ++ []
theorem dksX2_isNotInitialized_0 : cX2_isNotInitialized.data.toList.drop 0 = dktX2_isNotInitialized_0 := by decide +kernel
theorem dX2_isNotInitialized_0 : decode cX2_isNotInitialized 0 = .ok (.aload_n 0, 1) := dk_42 (dk_at dksX2_isNotInitialized_0 0 rfl rfl)
theorem dX2_isNotInitialized_1 : decode cX2_isNotInitialized 1 = .ok (.getfield 33, 3) := dk_180 0 33 (dk_at dksX2_isNotInitialized_0 1 rfl rfl)
theorem dX2_isNotInitialized_4 : decode cX2_isNotInitialized 4 = .ok (.ifnonnull 7, 3) := dk_199 0 7 (dk_at dksX2_isNotInitialized_0 4 rfl rfl)
theorem dX2_isNotInitialized_7 : decode cX2_isNotInitialized 7 = .ok (.iconst 1, 1) := dk_4 (dk_at dksX2_isNotInitialized_0 7 rfl rfl)
theorem dX2_isNotInitialized_8 : decode cX2_isNotInitialized 8 = .ok (.goto 4, 3) := dk_167 0 4 (dk_at dksX2_isNotInitialized_0 8 rfl rfl)
theorem dX2_isNotInitialized_11 : decode cX2_isNotInitialized 11 = .ok (.iconst 0, 1) := dk_3 (dk_at dksX2_isNotInitialized_0 11 rfl rfl)
theorem dX2_isNotInitialized_12 : decode cX2_isNotInitialized 12 = .ok (.ireturn, 1) := dk_172 (dk_at dksX2_isNotInitialized_0 12 rfl rfl)
abbrev cX2_spread : ByteArray := prog_2_method_6_code
def yX2_spread : MethodName := ⟨RX2, "spread", "(I)I"⟩
def dkwX2_spread_1 : List UInt8 := [26, 26, 16, 15, 124, 130, 59, 26, 172]
abbrev dktX2_spread_1 : List UInt8 := dkwX2_spread_1 ++ []
def dkwX2_spread_0 : List UInt8 := [26, 26, 16, 17, 124, 130, 59, 26, 18, 77, 104, 59, 26, 26, 16, 11, 124, 130, 59, 26, 18, 78, 104, 59]
abbrev dktX2_spread_0 : List UInt8 := dkwX2_spread_0 ++ dktX2_spread_1
theorem dksX2_spread_0 : cX2_spread.data.toList.drop 0 = dktX2_spread_0 := by decide +kernel
theorem dksX2_spread_1 : cX2_spread.data.toList.drop 24 = dktX2_spread_1 := dk_seg dksX2_spread_0 24 rfl rfl
theorem dX2_spread_0 : decode cX2_spread 0 = .ok (.iload_n 0, 1) := dk_26 (dk_at dksX2_spread_0 0 rfl rfl)
theorem dX2_spread_1 : decode cX2_spread 1 = .ok (.iload_n 0, 1) := dk_26 (dk_at dksX2_spread_0 1 rfl rfl)
theorem dX2_spread_2 : decode cX2_spread 2 = .ok (.bipush 17, 2) := dk_16 17 (dk_at dksX2_spread_0 2 rfl rfl)
theorem dX2_spread_4 : decode cX2_spread 4 = .ok (.iushr, 1) := dk_124 (dk_at dksX2_spread_0 4 rfl rfl)
theorem dX2_spread_5 : decode cX2_spread 5 = .ok (.ixor, 1) := dk_130 (dk_at dksX2_spread_0 5 rfl rfl)
theorem dX2_spread_6 : decode cX2_spread 6 = .ok (.istore_n 0, 1) := dk_59 (dk_at dksX2_spread_0 6 rfl rfl)
theorem dX2_spread_7 : decode cX2_spread 7 = .ok (.iload_n 0, 1) := dk_26 (dk_at dksX2_spread_0 7 rfl rfl)
theorem dX2_spread_8 : decode cX2_spread 8 = .ok (.ldc 77, 2) := dk_18 77 (dk_at dksX2_spread_0 8 rfl rfl)
theorem dX2_spread_10 : decode cX2_spread 10 = .ok (.imul, 1) := dk_104 (dk_at dksX2_spread_0 10 rfl rfl)
theorem dX2_spread_11 : decode cX2_spread 11 = .ok (.istore_n 0, 1) := dk_59 (dk_at dksX2_spread_0 11 rfl rfl)
theorem dX2_spread_12 : decode cX2_spread 12 = .ok (.iload_n 0, 1) := dk_26 (dk_at dksX2_spread_0 12 rfl rfl)
theorem dX2_spread_13 : decode cX2_spread 13 = .ok (.iload_n 0, 1) := dk_26 (dk_at dksX2_spread_0 13 rfl rfl)
theorem dX2_spread_14 : decode cX2_spread 14 = .ok (.bipush 11, 2) := dk_16 11 (dk_at dksX2_spread_0 14 rfl rfl)
theorem dX2_spread_16 : decode cX2_spread 16 = .ok (.iushr, 1) := dk_124 (dk_at dksX2_spread_0 16 rfl rfl)
theorem dX2_spread_17 : decode cX2_spread 17 = .ok (.ixor, 1) := dk_130 (dk_at dksX2_spread_0 17 rfl rfl)
theorem dX2_spread_18 : decode cX2_spread 18 = .ok (.istore_n 0, 1) := dk_59 (dk_at dksX2_spread_0 18 rfl rfl)
theorem dX2_spread_19 : decode cX2_spread 19 = .ok (.iload_n 0, 1) := dk_26 (dk_at dksX2_spread_0 19 rfl rfl)
theorem dX2_spread_20 : decode cX2_spread 20 = .ok (.ldc 78, 2) := dk_18 78 (dk_at dksX2_spread_0 20 rfl rfl)
theorem dX2_spread_22 : decode cX2_spread 22 = .ok (.imul, 1) := dk_104 (dk_at dksX2_spread_0 22 rfl rfl)
theorem dX2_spread_23 : decode cX2_spread 23 = .ok (.istore_n 0, 1) := dk_59 (dk_at dksX2_spread_0 23 rfl rfl)
theorem dX2_spread_24 : decode cX2_spread 24 = .ok (.iload_n 0, 1) := dk_26 (dk_at dksX2_spread_1 0 rfl rfl)
theorem dX2_spread_25 : decode cX2_spread 25 = .ok (.iload_n 0, 1) := dk_26 (dk_at dksX2_spread_1 1 rfl rfl)
theorem dX2_spread_26 : decode cX2_spread 26 = .ok (.bipush 15, 2) := dk_16 15 (dk_at dksX2_spread_1 2 rfl rfl)
theorem dX2_spread_28 : decode cX2_spread 28 = .ok (.iushr, 1) := dk_124 (dk_at dksX2_spread_1 4 rfl rfl)
theorem dX2_spread_29 : decode cX2_spread 29 = .ok (.ixor, 1) := dk_130 (dk_at dksX2_spread_1 5 rfl rfl)
theorem dX2_spread_30 : decode cX2_spread 30 = .ok (.istore_n 0, 1) := dk_59 (dk_at dksX2_spread_1 6 rfl rfl)
theorem dX2_spread_31 : decode cX2_spread 31 = .ok (.iload_n 0, 1) := dk_26 (dk_at dksX2_spread_1 7 rfl rfl)
theorem dX2_spread_32 : decode cX2_spread 32 = .ok (.ireturn, 1) := dk_172 (dk_at dksX2_spread_1 8 rfl rfl)
abbrev cX2_rehash : ByteArray := prog_2_method_7_code
def yX2_rehash : MethodName := ⟨RX2, "rehash", "(I)I"⟩
def dkwX2_rehash_0 : List UInt8 := [26, 18, 79, 104, 59, 26, 26, 16, 14, 124, 130, 59, 26, 172]
abbrev dktX2_rehash_0 : List UInt8 := dkwX2_rehash_0 ++ []
theorem dksX2_rehash_0 : cX2_rehash.data.toList.drop 0 = dktX2_rehash_0 := by decide +kernel
theorem dX2_rehash_0 : decode cX2_rehash 0 = .ok (.iload_n 0, 1) := dk_26 (dk_at dksX2_rehash_0 0 rfl rfl)
theorem dX2_rehash_1 : decode cX2_rehash 1 = .ok (.ldc 79, 2) := dk_18 79 (dk_at dksX2_rehash_0 1 rfl rfl)
theorem dX2_rehash_3 : decode cX2_rehash 3 = .ok (.imul, 1) := dk_104 (dk_at dksX2_rehash_0 3 rfl rfl)
theorem dX2_rehash_4 : decode cX2_rehash 4 = .ok (.istore_n 0, 1) := dk_59 (dk_at dksX2_rehash_0 4 rfl rfl)
theorem dX2_rehash_5 : decode cX2_rehash 5 = .ok (.iload_n 0, 1) := dk_26 (dk_at dksX2_rehash_0 5 rfl rfl)
theorem dX2_rehash_6 : decode cX2_rehash 6 = .ok (.iload_n 0, 1) := dk_26 (dk_at dksX2_rehash_0 6 rfl rfl)
theorem dX2_rehash_7 : decode cX2_rehash 7 = .ok (.bipush 14, 2) := dk_16 14 (dk_at dksX2_rehash_0 7 rfl rfl)
theorem dX2_rehash_9 : decode cX2_rehash 9 = .ok (.iushr, 1) := dk_124 (dk_at dksX2_rehash_0 9 rfl rfl)
theorem dX2_rehash_10 : decode cX2_rehash 10 = .ok (.ixor, 1) := dk_130 (dk_at dksX2_rehash_0 10 rfl rfl)
theorem dX2_rehash_11 : decode cX2_rehash 11 = .ok (.istore_n 0, 1) := dk_59 (dk_at dksX2_rehash_0 11 rfl rfl)
theorem dX2_rehash_12 : decode cX2_rehash 12 = .ok (.iload_n 0, 1) := dk_26 (dk_at dksX2_rehash_0 12 rfl rfl)
theorem dX2_rehash_13 : decode cX2_rehash 13 = .ok (.ireturn, 1) := dk_172 (dk_at dksX2_rehash_0 13 rfl rfl)
abbrev cX2_incrementAt : ByteArray := prog_2_method_8_code
def yX2_incrementAt : MethodName := ⟨RX2, "incrementAt", "(II)Z"⟩
def dkwX2_incrementAt_1 : List UInt8 := [153, 0, 17, 42, 180, 0, 33, 27, 92, 47, 10, 29, 121, 97, 80, 4, 172, 3, 172]
abbrev dktX2_incrementAt_1 : List UInt8 := dkwX2_incrementAt_1 ++ []
def dkwX2_incrementAt_0 : List UInt8 := [28, 5, 120, 62, 20, 0, 68, 29, 121, 55, 4, 42, 180, 0, 33, 27, 47, 22, 4, 127, 22, 4, 148]
abbrev dktX2_incrementAt_0 : List UInt8 := dkwX2_incrementAt_0 ++ dktX2_incrementAt_1
theorem dksX2_incrementAt_0 : cX2_incrementAt.data.toList.drop 0 = dktX2_incrementAt_0 := by decide +kernel
theorem dksX2_incrementAt_1 : cX2_incrementAt.data.toList.drop 23 = dktX2_incrementAt_1 := dk_seg dksX2_incrementAt_0 23 rfl rfl
theorem dX2_incrementAt_0 : decode cX2_incrementAt 0 = .ok (.iload_n 2, 1) := dk_28 (dk_at dksX2_incrementAt_0 0 rfl rfl)
theorem dX2_incrementAt_1 : decode cX2_incrementAt 1 = .ok (.iconst 2, 1) := dk_5 (dk_at dksX2_incrementAt_0 1 rfl rfl)
theorem dX2_incrementAt_2 : decode cX2_incrementAt 2 = .ok (.ishl, 1) := dk_120 (dk_at dksX2_incrementAt_0 2 rfl rfl)
theorem dX2_incrementAt_3 : decode cX2_incrementAt 3 = .ok (.istore_n 3, 1) := dk_62 (dk_at dksX2_incrementAt_0 3 rfl rfl)
theorem dX2_incrementAt_4 : decode cX2_incrementAt 4 = .ok (.ldc2_w 68, 3) := dk_20 0 68 (dk_at dksX2_incrementAt_0 4 rfl rfl)
theorem dX2_incrementAt_7 : decode cX2_incrementAt 7 = .ok (.iload_n 3, 1) := dk_29 (dk_at dksX2_incrementAt_0 7 rfl rfl)
theorem dX2_incrementAt_8 : decode cX2_incrementAt 8 = .ok (.lshl, 1) := dk_121 (dk_at dksX2_incrementAt_0 8 rfl rfl)
theorem dX2_incrementAt_9 : decode cX2_incrementAt 9 = .ok (.lstore 4, 2) := dk_55 4 (dk_at dksX2_incrementAt_0 9 rfl rfl)
theorem dX2_incrementAt_11 : decode cX2_incrementAt 11 = .ok (.aload_n 0, 1) := dk_42 (dk_at dksX2_incrementAt_0 11 rfl rfl)
theorem dX2_incrementAt_12 : decode cX2_incrementAt 12 = .ok (.getfield 33, 3) := dk_180 0 33 (dk_at dksX2_incrementAt_0 12 rfl rfl)
theorem dX2_incrementAt_15 : decode cX2_incrementAt 15 = .ok (.iload_n 1, 1) := dk_27 (dk_at dksX2_incrementAt_0 15 rfl rfl)
theorem dX2_incrementAt_16 : decode cX2_incrementAt 16 = .ok (.laload, 1) := dk_47 (dk_at dksX2_incrementAt_0 16 rfl rfl)
theorem dX2_incrementAt_17 : decode cX2_incrementAt 17 = .ok (.lload 4, 2) := dk_22 4 (dk_at dksX2_incrementAt_0 17 rfl rfl)
theorem dX2_incrementAt_19 : decode cX2_incrementAt 19 = .ok (.land, 1) := dk_127 (dk_at dksX2_incrementAt_0 19 rfl rfl)
theorem dX2_incrementAt_20 : decode cX2_incrementAt 20 = .ok (.lload 4, 2) := dk_22 4 (dk_at dksX2_incrementAt_0 20 rfl rfl)
theorem dX2_incrementAt_22 : decode cX2_incrementAt 22 = .ok (.lcmp, 1) := dk_148 (dk_at dksX2_incrementAt_0 22 rfl rfl)
theorem dX2_incrementAt_23 : decode cX2_incrementAt 23 = .ok (.ifCond .eq 17, 3) := dk_153 0 17 (dk_at dksX2_incrementAt_1 0 rfl rfl)
theorem dX2_incrementAt_26 : decode cX2_incrementAt 26 = .ok (.aload_n 0, 1) := dk_42 (dk_at dksX2_incrementAt_1 3 rfl rfl)
theorem dX2_incrementAt_27 : decode cX2_incrementAt 27 = .ok (.getfield 33, 3) := dk_180 0 33 (dk_at dksX2_incrementAt_1 4 rfl rfl)
theorem dX2_incrementAt_30 : decode cX2_incrementAt 30 = .ok (.iload_n 1, 1) := dk_27 (dk_at dksX2_incrementAt_1 7 rfl rfl)
theorem dX2_incrementAt_31 : decode cX2_incrementAt 31 = .ok (.dup2, 1) := dk_92 (dk_at dksX2_incrementAt_1 8 rfl rfl)
theorem dX2_incrementAt_32 : decode cX2_incrementAt 32 = .ok (.laload, 1) := dk_47 (dk_at dksX2_incrementAt_1 9 rfl rfl)
theorem dX2_incrementAt_33 : decode cX2_incrementAt 33 = .ok (.lconst 1, 1) := dk_10 (dk_at dksX2_incrementAt_1 10 rfl rfl)
theorem dX2_incrementAt_34 : decode cX2_incrementAt 34 = .ok (.iload_n 3, 1) := dk_29 (dk_at dksX2_incrementAt_1 11 rfl rfl)
theorem dX2_incrementAt_35 : decode cX2_incrementAt 35 = .ok (.lshl, 1) := dk_121 (dk_at dksX2_incrementAt_1 12 rfl rfl)
theorem dX2_incrementAt_36 : decode cX2_incrementAt 36 = .ok (.ladd, 1) := dk_97 (dk_at dksX2_incrementAt_1 13 rfl rfl)
theorem dX2_incrementAt_37 : decode cX2_incrementAt 37 = .ok (.lastore, 1) := dk_80 (dk_at dksX2_incrementAt_1 14 rfl rfl)
theorem dX2_incrementAt_38 : decode cX2_incrementAt 38 = .ok (.iconst 1, 1) := dk_4 (dk_at dksX2_incrementAt_1 15 rfl rfl)
theorem dX2_incrementAt_39 : decode cX2_incrementAt 39 = .ok (.ireturn, 1) := dk_172 (dk_at dksX2_incrementAt_1 16 rfl rfl)
theorem dX2_incrementAt_40 : decode cX2_incrementAt 40 = .ok (.iconst 0, 1) := dk_3 (dk_at dksX2_incrementAt_1 17 rfl rfl)
theorem dX2_incrementAt_41 : decode cX2_incrementAt 41 = .ok (.ireturn, 1) := dk_172 (dk_at dksX2_incrementAt_1 18 rfl rfl)
abbrev cX2_reset : ByteArray := prog_2_method_9_code
def yX2_reset : MethodName := ⟨RX2, "reset", "()V"⟩
abbrev cX2_frequency : ByteArray := prog_2_method_4_code
def yX2_frequency : MethodName := ⟨RX2, "frequency", "(Ljava/lang/Object;)I"⟩
def dkwX2_frequency_4 : List UInt8 := [20, 0, 68, 127, 136, 54, 11, 28, 21, 11, 184, 0, 44, 61, 132, 6, 1, 167, 255, 185, 28, 172]
abbrev dktX2_frequency_4 : List UInt8 := dkwX2_frequency_4 ++ []
def dkwX2_frequency_3 : List UInt8 := [21, 9, 96, 21, 6, 4, 120, 96, 54, 10, 42, 180, 0, 33, 21, 10, 47, 21, 8, 5, 120, 125]
abbrev dktX2_frequency_3 : List UInt8 := dkwX2_frequency_3 ++ dktX2_frequency_4
def dkwX2_frequency_2 : List UInt8 := [21, 6, 6, 120, 124, 54, 7, 21, 7, 4, 124, 16, 15, 126, 54, 8, 21, 7, 4, 126, 54, 9, 21, 5]
abbrev dktX2_frequency_2 : List UInt8 := dkwX2_frequency_2 ++ dktX2_frequency_3
def dkwX2_frequency_1 : List UInt8 := [54, 4, 29, 42, 180, 0, 50, 126, 6, 120, 54, 5, 3, 54, 6, 21, 6, 7, 162, 0, 71, 21, 4]
abbrev dktX2_frequency_1 : List UInt8 := dkwX2_frequency_1 ++ dktX2_frequency_2
def dkwX2_frequency_0 : List UInt8 := [42, 182, 0, 53, 153, 0, 5, 3, 172, 18, 57, 61, 43, 182, 0, 58, 184, 0, 62, 62, 29, 184, 0, 65]
abbrev dktX2_frequency_0 : List UInt8 := dkwX2_frequency_0 ++ dktX2_frequency_1
theorem dksX2_frequency_0 : cX2_frequency.data.toList.drop 0 = dktX2_frequency_0 := by decide +kernel
theorem dksX2_frequency_1 : cX2_frequency.data.toList.drop 24 = dktX2_frequency_1 := dk_seg dksX2_frequency_0 24 rfl rfl
theorem dksX2_frequency_2 : cX2_frequency.data.toList.drop 47 = dktX2_frequency_2 := dk_seg dksX2_frequency_1 23 rfl rfl
theorem dksX2_frequency_3 : cX2_frequency.data.toList.drop 71 = dktX2_frequency_3 := dk_seg dksX2_frequency_2 24 rfl rfl
theorem dksX2_frequency_4 : cX2_frequency.data.toList.drop 93 = dktX2_frequency_4 := dk_seg dksX2_frequency_3 22 rfl rfl
theorem dX2_frequency_0 : decode cX2_frequency 0 = .ok (.aload_n 0, 1) := dk_42 (dk_at dksX2_frequency_0 0 rfl rfl)
theorem dX2_frequency_1 : decode cX2_frequency 1 = .ok (.invokevirtual 53, 3) := dk_182 0 53 (dk_at dksX2_frequency_0 1 rfl rfl)
theorem dX2_frequency_4 : decode cX2_frequency 4 = .ok (.ifCond .eq 5, 3) := dk_153 0 5 (dk_at dksX2_frequency_0 4 rfl rfl)
theorem dX2_frequency_7 : decode cX2_frequency 7 = .ok (.iconst 0, 1) := dk_3 (dk_at dksX2_frequency_0 7 rfl rfl)
theorem dX2_frequency_8 : decode cX2_frequency 8 = .ok (.ireturn, 1) := dk_172 (dk_at dksX2_frequency_0 8 rfl rfl)
theorem dX2_frequency_9 : decode cX2_frequency 9 = .ok (.ldc 57, 2) := dk_18 57 (dk_at dksX2_frequency_0 9 rfl rfl)
theorem dX2_frequency_11 : decode cX2_frequency 11 = .ok (.istore_n 2, 1) := dk_61 (dk_at dksX2_frequency_0 11 rfl rfl)
theorem dX2_frequency_12 : decode cX2_frequency 12 = .ok (.aload_n 1, 1) := dk_43 (dk_at dksX2_frequency_0 12 rfl rfl)
theorem dX2_frequency_13 : decode cX2_frequency 13 = .ok (.invokevirtual 58, 3) := dk_182 0 58 (dk_at dksX2_frequency_0 13 rfl rfl)
theorem dX2_frequency_16 : decode cX2_frequency 16 = .ok (.invokestatic 62, 3) := dk_184 0 62 (dk_at dksX2_frequency_0 16 rfl rfl)
theorem dX2_frequency_19 : decode cX2_frequency 19 = .ok (.istore_n 3, 1) := dk_62 (dk_at dksX2_frequency_0 19 rfl rfl)
theorem dX2_frequency_20 : decode cX2_frequency 20 = .ok (.iload_n 3, 1) := dk_29 (dk_at dksX2_frequency_0 20 rfl rfl)
theorem dX2_frequency_21 : decode cX2_frequency 21 = .ok (.invokestatic 65, 3) := dk_184 0 65 (dk_at dksX2_frequency_0 21 rfl rfl)
theorem dX2_frequency_24 : decode cX2_frequency 24 = .ok (.istore 4, 2) := dk_54 4 (dk_at dksX2_frequency_1 0 rfl rfl)
theorem dX2_frequency_26 : decode cX2_frequency 26 = .ok (.iload_n 3, 1) := dk_29 (dk_at dksX2_frequency_1 2 rfl rfl)
theorem dX2_frequency_27 : decode cX2_frequency 27 = .ok (.aload_n 0, 1) := dk_42 (dk_at dksX2_frequency_1 3 rfl rfl)
theorem dX2_frequency_28 : decode cX2_frequency 28 = .ok (.getfield 50, 3) := dk_180 0 50 (dk_at dksX2_frequency_1 4 rfl rfl)
theorem dX2_frequency_31 : decode cX2_frequency 31 = .ok (.iand, 1) := dk_126 (dk_at dksX2_frequency_1 7 rfl rfl)
theorem dX2_frequency_32 : decode cX2_frequency 32 = .ok (.iconst 3, 1) := dk_6 (dk_at dksX2_frequency_1 8 rfl rfl)
theorem dX2_frequency_33 : decode cX2_frequency 33 = .ok (.ishl, 1) := dk_120 (dk_at dksX2_frequency_1 9 rfl rfl)
theorem dX2_frequency_34 : decode cX2_frequency 34 = .ok (.istore 5, 2) := dk_54 5 (dk_at dksX2_frequency_1 10 rfl rfl)
theorem dX2_frequency_36 : decode cX2_frequency 36 = .ok (.iconst 0, 1) := dk_3 (dk_at dksX2_frequency_1 12 rfl rfl)
theorem dX2_frequency_37 : decode cX2_frequency 37 = .ok (.istore 6, 2) := dk_54 6 (dk_at dksX2_frequency_1 13 rfl rfl)
theorem dX2_frequency_39 : decode cX2_frequency 39 = .ok (.iload 6, 2) := dk_21 6 (dk_at dksX2_frequency_1 15 rfl rfl)
theorem dX2_frequency_41 : decode cX2_frequency 41 = .ok (.iconst 4, 1) := dk_7 (dk_at dksX2_frequency_1 17 rfl rfl)
theorem dX2_frequency_42 : decode cX2_frequency 42 = .ok (.if_icmp .ge 71, 3) := dk_162 0 71 (dk_at dksX2_frequency_1 18 rfl rfl)
theorem dX2_frequency_45 : decode cX2_frequency 45 = .ok (.iload 4, 2) := dk_21 4 (dk_at dksX2_frequency_1 21 rfl rfl)
theorem dX2_frequency_47 : decode cX2_frequency 47 = .ok (.iload 6, 2) := dk_21 6 (dk_at dksX2_frequency_2 0 rfl rfl)
theorem dX2_frequency_49 : decode cX2_frequency 49 = .ok (.iconst 3, 1) := dk_6 (dk_at dksX2_frequency_2 2 rfl rfl)
theorem dX2_frequency_50 : decode cX2_frequency 50 = .ok (.ishl, 1) := dk_120 (dk_at dksX2_frequency_2 3 rfl rfl)
theorem dX2_frequency_51 : decode cX2_frequency 51 = .ok (.iushr, 1) := dk_124 (dk_at dksX2_frequency_2 4 rfl rfl)
theorem dX2_frequency_52 : decode cX2_frequency 52 = .ok (.istore 7, 2) := dk_54 7 (dk_at dksX2_frequency_2 5 rfl rfl)
theorem dX2_frequency_54 : decode cX2_frequency 54 = .ok (.iload 7, 2) := dk_21 7 (dk_at dksX2_frequency_2 7 rfl rfl)
theorem dX2_frequency_56 : decode cX2_frequency 56 = .ok (.iconst 1, 1) := dk_4 (dk_at dksX2_frequency_2 9 rfl rfl)
theorem dX2_frequency_57 : decode cX2_frequency 57 = .ok (.iushr, 1) := dk_124 (dk_at dksX2_frequency_2 10 rfl rfl)
theorem dX2_frequency_58 : decode cX2_frequency 58 = .ok (.bipush 15, 2) := dk_16 15 (dk_at dksX2_frequency_2 11 rfl rfl)
theorem dX2_frequency_60 : decode cX2_frequency 60 = .ok (.iand, 1) := dk_126 (dk_at dksX2_frequency_2 13 rfl rfl)
theorem dX2_frequency_61 : decode cX2_frequency 61 = .ok (.istore 8, 2) := dk_54 8 (dk_at dksX2_frequency_2 14 rfl rfl)
theorem dX2_frequency_63 : decode cX2_frequency 63 = .ok (.iload 7, 2) := dk_21 7 (dk_at dksX2_frequency_2 16 rfl rfl)
theorem dX2_frequency_65 : decode cX2_frequency 65 = .ok (.iconst 1, 1) := dk_4 (dk_at dksX2_frequency_2 18 rfl rfl)
theorem dX2_frequency_66 : decode cX2_frequency 66 = .ok (.iand, 1) := dk_126 (dk_at dksX2_frequency_2 19 rfl rfl)
theorem dX2_frequency_67 : decode cX2_frequency 67 = .ok (.istore 9, 2) := dk_54 9 (dk_at dksX2_frequency_2 20 rfl rfl)
theorem dX2_frequency_69 : decode cX2_frequency 69 = .ok (.iload 5, 2) := dk_21 5 (dk_at dksX2_frequency_2 22 rfl rfl)
theorem dX2_frequency_71 : decode cX2_frequency 71 = .ok (.iload 9, 2) := dk_21 9 (dk_at dksX2_frequency_3 0 rfl rfl)
theorem dX2_frequency_73 : decode cX2_frequency 73 = .ok (.iadd, 1) := dk_96 (dk_at dksX2_frequency_3 2 rfl rfl)
theorem dX2_frequency_74 : decode cX2_frequency 74 = .ok (.iload 6, 2) := dk_21 6 (dk_at dksX2_frequency_3 3 rfl rfl)
theorem dX2_frequency_76 : decode cX2_frequency 76 = .ok (.iconst 1, 1) := dk_4 (dk_at dksX2_frequency_3 5 rfl rfl)
theorem dX2_frequency_77 : decode cX2_frequency 77 = .ok (.ishl, 1) := dk_120 (dk_at dksX2_frequency_3 6 rfl rfl)
theorem dX2_frequency_78 : decode cX2_frequency 78 = .ok (.iadd, 1) := dk_96 (dk_at dksX2_frequency_3 7 rfl rfl)
theorem dX2_frequency_79 : decode cX2_frequency 79 = .ok (.istore 10, 2) := dk_54 10 (dk_at dksX2_frequency_3 8 rfl rfl)
theorem dX2_frequency_81 : decode cX2_frequency 81 = .ok (.aload_n 0, 1) := dk_42 (dk_at dksX2_frequency_3 10 rfl rfl)
theorem dX2_frequency_82 : decode cX2_frequency 82 = .ok (.getfield 33, 3) := dk_180 0 33 (dk_at dksX2_frequency_3 11 rfl rfl)
theorem dX2_frequency_85 : decode cX2_frequency 85 = .ok (.iload 10, 2) := dk_21 10 (dk_at dksX2_frequency_3 14 rfl rfl)
theorem dX2_frequency_87 : decode cX2_frequency 87 = .ok (.laload, 1) := dk_47 (dk_at dksX2_frequency_3 16 rfl rfl)
theorem dX2_frequency_88 : decode cX2_frequency 88 = .ok (.iload 8, 2) := dk_21 8 (dk_at dksX2_frequency_3 17 rfl rfl)
theorem dX2_frequency_90 : decode cX2_frequency 90 = .ok (.iconst 2, 1) := dk_5 (dk_at dksX2_frequency_3 19 rfl rfl)
theorem dX2_frequency_91 : decode cX2_frequency 91 = .ok (.ishl, 1) := dk_120 (dk_at dksX2_frequency_3 20 rfl rfl)
theorem dX2_frequency_92 : decode cX2_frequency 92 = .ok (.lushr, 1) := dk_125 (dk_at dksX2_frequency_3 21 rfl rfl)
theorem dX2_frequency_93 : decode cX2_frequency 93 = .ok (.ldc2_w 68, 3) := dk_20 0 68 (dk_at dksX2_frequency_4 0 rfl rfl)
theorem dX2_frequency_96 : decode cX2_frequency 96 = .ok (.land, 1) := dk_127 (dk_at dksX2_frequency_4 3 rfl rfl)
theorem dX2_frequency_97 : decode cX2_frequency 97 = .ok (.l2i, 1) := dk_136 (dk_at dksX2_frequency_4 4 rfl rfl)
theorem dX2_frequency_98 : decode cX2_frequency 98 = .ok (.istore 11, 2) := dk_54 11 (dk_at dksX2_frequency_4 5 rfl rfl)
theorem dX2_frequency_100 : decode cX2_frequency 100 = .ok (.iload_n 2, 1) := dk_28 (dk_at dksX2_frequency_4 7 rfl rfl)
theorem dX2_frequency_101 : decode cX2_frequency 101 = .ok (.iload 11, 2) := dk_21 11 (dk_at dksX2_frequency_4 8 rfl rfl)
theorem dX2_frequency_103 : decode cX2_frequency 103 = .ok (.invokestatic 44, 3) := dk_184 0 44 (dk_at dksX2_frequency_4 10 rfl rfl)
theorem dX2_frequency_106 : decode cX2_frequency 106 = .ok (.istore_n 2, 1) := dk_61 (dk_at dksX2_frequency_4 13 rfl rfl)
theorem dX2_frequency_107 : decode cX2_frequency 107 = .ok (.iinc 6 1, 3) := dk_132 6 1 (dk_at dksX2_frequency_4 14 rfl rfl)
theorem dX2_frequency_110 : decode cX2_frequency 110 = .ok (.goto (-71), 3) := dk_167 255 185 (dk_at dksX2_frequency_4 17 rfl rfl)
theorem dX2_frequency_113 : decode cX2_frequency 113 = .ok (.iload_n 2, 1) := dk_28 (dk_at dksX2_frequency_4 20 rfl rfl)
theorem dX2_frequency_114 : decode cX2_frequency 114 = .ok (.ireturn, 1) := dk_172 (dk_at dksX2_frequency_4 21 rfl rfl)
theorem q3 : (Jvm.Cond.initialized "FrequencySketch") ∈ lw_all := lw_g (lw_at lw_m0 2 rfl) rfl
theorem q23 : (Jvm.Cond.instantiable "FrequencySketch" (4 : Nat)) ∈ lw_all := lw_g (lw_at lw_m0 22 rfl) rfl
theorem q25 : (Jvm.Cond.instanceMethod ({ cls := "FrequencySketch", name := "<init>", desc := "()V" } : Jvm.MethodName)) ∈ lw_all := lw_g (lw_at lw_m0 24 rfl) rfl
theorem q26 : (Jvm.Cond.code ({ cls := "FrequencySketch", name := "<init>", desc := "()V" } : Jvm.MethodName) prog_2_method_1_code (1 : Nat) (Option.none : Option Jvm.ClassFile.FieldType)) ∈ lw_all := lw_g (lw_at lw_m0 25 rfl) rfl
theorem q27 : (Jvm.Cond.methodLink "FrequencySketch" (1 : Nat) ({ cls := "java/lang/Object", name := "<init>", desc := "()V" } : Jvm.MethodName)) ∈ lw_all := lw_g (lw_at lw_m0 26 rfl) rfl
theorem q28 : (Jvm.Cond.fieldLink "FrequencySketch" (37 : Nat) "FrequencySketch" "sampleSize" "I") ∈ lw_all := lw_g (lw_at lw_m0 27 rfl) rfl
theorem q29 : (Jvm.Cond.fieldLink "FrequencySketch" (50 : Nat) "FrequencySketch" "blockMask" "I") ∈ lw_all := lw_g (lw_at lw_m0 28 rfl) rfl
theorem q30 : (Jvm.Cond.fieldLink "FrequencySketch" (33 : Nat) "FrequencySketch" "table" "[J") ∈ lw_all := lw_g (lw_at lw_m0 29 rfl) rfl
theorem q31 : (Jvm.Cond.fieldLink "FrequencySketch" (41 : Nat) "FrequencySketch" "size" "I") ∈ lw_all := lw_g (lw_at lw_m0 30 rfl) rfl
theorem q32 : (Jvm.Cond.lays "FrequencySketch" "FrequencySketch" "sampleSize" "I") ∈ lw_all := lw_g (lw_at lw_m0 31 rfl) rfl
theorem q33 : (Jvm.Cond.soleField "FrequencySketch" "sampleSize") ∈ lw_all := lw_g (lw_at lw_m0 32 rfl) rfl
theorem q34 : (Jvm.Cond.lays "FrequencySketch" "FrequencySketch" "blockMask" "I") ∈ lw_all := lw_g (lw_at lw_m0 33 rfl) rfl
theorem q35 : (Jvm.Cond.soleField "FrequencySketch" "blockMask") ∈ lw_all := lw_g (lw_at lw_m0 34 rfl) rfl
theorem q36 : (Jvm.Cond.lays "FrequencySketch" "FrequencySketch" "table" "[J") ∈ lw_all := lw_g (lw_at lw_m0 35 rfl) rfl
theorem q37 : (Jvm.Cond.soleField "FrequencySketch" "table") ∈ lw_all := lw_g (lw_at lw_m0 36 rfl) rfl
theorem q38 : (Jvm.Cond.lays "FrequencySketch" "FrequencySketch" "size" "I") ∈ lw_all := lw_g (lw_at lw_m0 37 rfl) rfl
theorem q39 : (Jvm.Cond.soleField "FrequencySketch" "size") ∈ lw_all := lw_g (lw_at lw_m0 38 rfl) rfl
theorem q40 : (Jvm.Cond.superclass "FrequencySketch" "java/lang/Object") ∈ lw_all := lw_g (lw_at lw_m0 39 rfl) rfl
theorem q43 : (Jvm.Cond.instanceMethod ({ cls := "FrequencySketch", name := "ensureCapacity", desc := "(J)V" } : Jvm.MethodName)) ∈ lw_all := lw_g (lw_at lw_m0 42 rfl) rfl
theorem q44 : (Jvm.Cond.selects "FrequencySketch" ({ cls := "FrequencySketch", name := "ensureCapacity", desc := "(J)V" } : Jvm.MethodName) ({ cls := "FrequencySketch", name := "ensureCapacity", desc := "(J)V" } : Jvm.MethodName)) ∈ lw_all := lw_g (lw_at lw_m0 43 rfl) rfl
theorem q45 : (Jvm.Cond.code ({ cls := "FrequencySketch", name := "ensureCapacity", desc := "(J)V" } : Jvm.MethodName) prog_2_method_2_code (5 : Nat) (Option.none : Option Jvm.ClassFile.FieldType)) ∈ lw_all := lw_g (lw_at lw_m0 44 rfl) rfl
theorem q46 : (Jvm.Cond.methodLink "FrequencySketch" (7 : Nat) ({ cls := "Caffeine", name := "requireArgument", desc := "(Z)V" } : Jvm.MethodName)) ∈ lw_all := lw_g (lw_at lw_m0 45 rfl) rfl
theorem q110 : (Jvm.Cond.constantLong "FrequencySketch" (15 : Nat) (1073741823 : Int64)) ∈ lw_all := lw_g (lw_at lw_m0 109 rfl) rfl
theorem q111 : (Jvm.Cond.methodLink "FrequencySketch" (17 : Nat) ({ cls := "java/lang/Math", name := "min", desc := "(JJ)J" } : Jvm.MethodName)) ∈ lw_all := lw_g (lw_at lw_m0 110 rfl) rfl
theorem q114 : (Jvm.Cond.methodLink "FrequencySketch" (25 : Nat) ({ cls := "java/lang/Math", name := "max", desc := "(II)I" } : Jvm.MethodName)) ∈ lw_all := lw_g (lw_at lw_m0 113 rfl) rfl
theorem q117 : (Jvm.Cond.constantLong "FrequencySketch" (29 : Nat) (10 : Int64)) ∈ lw_all := lw_g (lw_at lw_m0 116 rfl) rfl
theorem q118 : (Jvm.Cond.constantLong "FrequencySketch" (31 : Nat) (2147483647 : Int64)) ∈ lw_all := lw_g (lw_at lw_m0 117 rfl) rfl
theorem q119 : (Jvm.Cond.methodLink "FrequencySketch" (44 : Nat) ({ cls := "java/lang/Math", name := "min", desc := "(II)I" } : Jvm.MethodName)) ∈ lw_all := lw_g (lw_at lw_m0 118 rfl) rfl
theorem q122 : (Jvm.Cond.methodLink "FrequencySketch" (46 : Nat) ({ cls := "Caffeine", name := "ceilingPowerOfTwo", desc := "(I)I" } : Jvm.MethodName)) ∈ lw_all := lw_g (lw_at lw_m0 121 rfl) rfl
theorem q160 : (Jvm.Cond.instanceMethod ({ cls := "FrequencySketch", name := "increment", desc := "(Ljava/lang/Object;)V" } : Jvm.MethodName)) ∈ lw_all := lw_g (lw_at lw_m0 159 rfl) rfl
theorem q161 : (Jvm.Cond.selects "FrequencySketch" ({ cls := "FrequencySketch", name := "increment", desc := "(Ljava/lang/Object;)V" } : Jvm.MethodName) ({ cls := "FrequencySketch", name := "increment", desc := "(Ljava/lang/Object;)V" } : Jvm.MethodName)) ∈ lw_all := lw_g (lw_at lw_m0 160 rfl) rfl
theorem q162 : (Jvm.Cond.code ({ cls := "FrequencySketch", name := "increment", desc := "(Ljava/lang/Object;)V" } : Jvm.MethodName) prog_2_method_5_code (18 : Nat) (Option.none : Option Jvm.ClassFile.FieldType)) ∈ lw_all := lw_g (lw_at lw_m0 161 rfl) rfl
theorem q163 : (Jvm.Cond.methodLink "FrequencySketch" (53 : Nat) ({ cls := "FrequencySketch", name := "isNotInitialized", desc := "()Z" } : Jvm.MethodName)) ∈ lw_all := lw_g (lw_at lw_m0 162 rfl) rfl
theorem q164 : (Jvm.Cond.instanceMethod ({ cls := "FrequencySketch", name := "isNotInitialized", desc := "()Z" } : Jvm.MethodName)) ∈ lw_all := lw_g (lw_at lw_m0 163 rfl) rfl
theorem q165 : (Jvm.Cond.selects "FrequencySketch" ({ cls := "FrequencySketch", name := "isNotInitialized", desc := "()Z" } : Jvm.MethodName) ({ cls := "FrequencySketch", name := "isNotInitialized", desc := "()Z" } : Jvm.MethodName)) ∈ lw_all := lw_g (lw_at lw_m0 164 rfl) rfl
theorem q166 : (Jvm.Cond.code ({ cls := "FrequencySketch", name := "isNotInitialized", desc := "()Z" } : Jvm.MethodName) prog_2_method_3_code (1 : Nat) (Option.some Jvm.ClassFile.FieldType.boolean)) ∈ lw_all := lw_g (lw_at lw_m0 165 rfl) rfl
theorem q167 : (Jvm.Cond.methodLink "FrequencySketch" (58 : Nat) ({ cls := "java/lang/Object", name := "hashCode", desc := "()I" } : Jvm.MethodName)) ∈ lw_all := lw_g (lw_at lw_m0 166 rfl) rfl
theorem q170 : (Jvm.Cond.selects "FrequencySketch" ({ cls := "java/lang/Object", name := "hashCode", desc := "()I" } : Jvm.MethodName) ({ cls := "java/lang/Object", name := "hashCode", desc := "()I" } : Jvm.MethodName)) ∈ lw_all := lw_g (lw_at lw_m0 169 rfl) rfl
theorem q180 : (Jvm.Cond.methodLink "FrequencySketch" (62 : Nat) ({ cls := "FrequencySketch", name := "spread", desc := "(I)I" } : Jvm.MethodName)) ∈ lw_all := lw_g (lw_at lw_m0 179 rfl) rfl
theorem q181 : (Jvm.Cond.static ({ cls := "FrequencySketch", name := "spread", desc := "(I)I" } : Jvm.MethodName)) ∈ lw_all := lw_g (lw_at lw_m0 180 rfl) rfl
theorem q182 : (Jvm.Cond.code ({ cls := "FrequencySketch", name := "spread", desc := "(I)I" } : Jvm.MethodName) prog_2_method_6_code (1 : Nat) (Option.some Jvm.ClassFile.FieldType.int)) ∈ lw_all := lw_g (lw_at lw_m0 181 rfl) rfl
theorem q183 : (Jvm.Cond.constant "FrequencySketch" (77 : Nat) (-312814405 : Int32)) ∈ lw_all := lw_g (lw_at lw_m0 182 rfl) rfl
theorem q184 : (Jvm.Cond.constant "FrequencySketch" (78 : Nat) (-1404298415 : Int32)) ∈ lw_all := lw_g (lw_at lw_m0 183 rfl) rfl
theorem q185 : (Jvm.Cond.methodLink "FrequencySketch" (65 : Nat) ({ cls := "FrequencySketch", name := "rehash", desc := "(I)I" } : Jvm.MethodName)) ∈ lw_all := lw_g (lw_at lw_m0 184 rfl) rfl
theorem q186 : (Jvm.Cond.static ({ cls := "FrequencySketch", name := "rehash", desc := "(I)I" } : Jvm.MethodName)) ∈ lw_all := lw_g (lw_at lw_m0 185 rfl) rfl
theorem q187 : (Jvm.Cond.code ({ cls := "FrequencySketch", name := "rehash", desc := "(I)I" } : Jvm.MethodName) prog_2_method_7_code (1 : Nat) (Option.some Jvm.ClassFile.FieldType.int)) ∈ lw_all := lw_g (lw_at lw_m0 186 rfl) rfl
theorem q188 : (Jvm.Cond.constant "FrequencySketch" (79 : Nat) (830770091 : Int32)) ∈ lw_all := lw_g (lw_at lw_m0 187 rfl) rfl
theorem q189 : (Jvm.Cond.methodLink "FrequencySketch" (70 : Nat) ({ cls := "FrequencySketch", name := "incrementAt", desc := "(II)Z" } : Jvm.MethodName)) ∈ lw_all := lw_g (lw_at lw_m0 188 rfl) rfl
theorem q190 : (Jvm.Cond.instanceMethod ({ cls := "FrequencySketch", name := "incrementAt", desc := "(II)Z" } : Jvm.MethodName)) ∈ lw_all := lw_g (lw_at lw_m0 189 rfl) rfl
theorem q191 : (Jvm.Cond.selects "FrequencySketch" ({ cls := "FrequencySketch", name := "incrementAt", desc := "(II)Z" } : Jvm.MethodName) ({ cls := "FrequencySketch", name := "incrementAt", desc := "(II)Z" } : Jvm.MethodName)) ∈ lw_all := lw_g (lw_at lw_m0 190 rfl) rfl
theorem q192 : (Jvm.Cond.code ({ cls := "FrequencySketch", name := "incrementAt", desc := "(II)Z" } : Jvm.MethodName) prog_2_method_8_code (6 : Nat) (Option.some Jvm.ClassFile.FieldType.boolean)) ∈ lw_all := lw_g (lw_at lw_m0 191 rfl) rfl
theorem q193 : (Jvm.Cond.constantLong "FrequencySketch" (68 : Nat) (15 : Int64)) ∈ lw_all := lw_g (lw_at lw_m0 192 rfl) rfl
theorem q194 : (Jvm.Cond.methodLink "FrequencySketch" (74 : Nat) ({ cls := "FrequencySketch", name := "reset", desc := "()V" } : Jvm.MethodName)) ∈ lw_all := lw_g (lw_at lw_m0 193 rfl) rfl
theorem q195 : (Jvm.Cond.instanceMethod ({ cls := "FrequencySketch", name := "reset", desc := "()V" } : Jvm.MethodName)) ∈ lw_all := lw_g (lw_at lw_m0 194 rfl) rfl
theorem q196 : (Jvm.Cond.selects "FrequencySketch" ({ cls := "FrequencySketch", name := "reset", desc := "()V" } : Jvm.MethodName) ({ cls := "FrequencySketch", name := "reset", desc := "()V" } : Jvm.MethodName)) ∈ lw_all := lw_g (lw_at lw_m0 195 rfl) rfl
theorem q197 : (Jvm.Cond.code ({ cls := "FrequencySketch", name := "reset", desc := "()V" } : Jvm.MethodName) prog_2_method_9_code (4 : Nat) (Option.none : Option Jvm.ClassFile.FieldType)) ∈ lw_all := lw_g (lw_at lw_m0 196 rfl) rfl
theorem q198 : (Jvm.Cond.constantLong "FrequencySketch" (80 : Nat) (1229782938247303441 : Int64)) ∈ lw_all := lw_g (lw_at lw_m0 197 rfl) rfl
theorem q199 : (Jvm.Cond.methodLink "FrequencySketch" (82 : Nat) ({ cls := "java/lang/Long", name := "bitCount", desc := "(J)I" } : Jvm.MethodName)) ∈ lw_all := lw_g (lw_at lw_m0 198 rfl) rfl
theorem q205 : (Jvm.Cond.constantLong "FrequencySketch" (88 : Nat) (8608480567731124087 : Int64)) ∈ lw_all := lw_g (lw_at lw_m0 204 rfl) rfl
theorem q211 : (Jvm.Cond.instanceMethod ({ cls := "FrequencySketch", name := "frequency", desc := "(Ljava/lang/Object;)I" } : Jvm.MethodName)) ∈ lw_all := lw_g (lw_at lw_m0 210 rfl) rfl
theorem q212 : (Jvm.Cond.selects "FrequencySketch" ({ cls := "FrequencySketch", name := "frequency", desc := "(Ljava/lang/Object;)I" } : Jvm.MethodName) ({ cls := "FrequencySketch", name := "frequency", desc := "(Ljava/lang/Object;)I" } : Jvm.MethodName)) ∈ lw_all := lw_g (lw_at lw_m0 211 rfl) rfl
theorem q213 : (Jvm.Cond.code ({ cls := "FrequencySketch", name := "frequency", desc := "(Ljava/lang/Object;)I" } : Jvm.MethodName) prog_2_method_4_code (12 : Nat) (Option.some Jvm.ClassFile.FieldType.int)) ∈ lw_all := lw_g (lw_at lw_m0 212 rfl) rfl
theorem q214 : (Jvm.Cond.constant "FrequencySketch" (57 : Nat) (2147483647 : Int32)) ∈ lw_all := lw_g (lw_at lw_m0 213 rfl) rfl
theorem in_X2 : ∀ w ∈ wsX20, w ∈ lw_all := lw_in wsX20 [32, 34, 36, 38] (by decide +kernel) (by decide +kernel)
/-! Caffeine -/
set_option maxRecDepth 100000
def RX3 : String := "Caffeine"
abbrev cX3_requireArgument : ByteArray := prog_1_method_1_code
def yX3_requireArgument : MethodName := ⟨RX3, "requireArgument", "(Z)V"⟩
def dkwX3_requireArgument_0 : List UInt8 := [26, 154, 0, 11, 187, 0, 1, 89, 183, 0, 3, 191, 177]
abbrev dktX3_requireArgument_0 : List UInt8 := dkwX3_requireArgument_0 ++ []
theorem dksX3_requireArgument_0 : cX3_requireArgument.data.toList.drop 0 = dktX3_requireArgument_0 := by decide +kernel
theorem dX3_requireArgument_0 : decode cX3_requireArgument 0 = .ok (.iload_n 0, 1) := dk_26 (dk_at dksX3_requireArgument_0 0 rfl rfl)
theorem dX3_requireArgument_1 : decode cX3_requireArgument 1 = .ok (.ifCond .ne 11, 3) := dk_154 0 11 (dk_at dksX3_requireArgument_0 1 rfl rfl)
theorem dX3_requireArgument_4 : decode cX3_requireArgument 4 = .ok (.new 1, 3) := dk_187 0 1 (dk_at dksX3_requireArgument_0 4 rfl rfl)
theorem dX3_requireArgument_7 : decode cX3_requireArgument 7 = .ok (.dup, 1) := dk_89 (dk_at dksX3_requireArgument_0 7 rfl rfl)
theorem dX3_requireArgument_8 : decode cX3_requireArgument 8 = .ok (.invokespecial 3, 3) := dk_183 0 3 (dk_at dksX3_requireArgument_0 8 rfl rfl)
theorem dX3_requireArgument_11 : decode cX3_requireArgument 11 = .ok (.athrow, 1) := dk_191 (dk_at dksX3_requireArgument_0 11 rfl rfl)
theorem dX3_requireArgument_12 : decode cX3_requireArgument 12 = .ok (.return_, 1) := dk_177 (dk_at dksX3_requireArgument_0 12 rfl rfl)
abbrev cX3_ceilingPowerOfTwo : ByteArray := prog_1_method_2_code
def yX3_ceilingPowerOfTwo : MethodName := ⟨RX3, "ceilingPowerOfTwo", "(I)I"⟩
def dkwX3_ceilingPowerOfTwo_0 : List UInt8 := [26, 18, 7, 164, 0, 6, 18, 7, 172, 4, 26, 4, 100, 184, 0, 8, 116, 120, 172]
abbrev dktX3_ceilingPowerOfTwo_0 : List UInt8 := dkwX3_ceilingPowerOfTwo_0 ++ []
theorem dksX3_ceilingPowerOfTwo_0 : cX3_ceilingPowerOfTwo.data.toList.drop 0 = dktX3_ceilingPowerOfTwo_0 := by decide +kernel
theorem dX3_ceilingPowerOfTwo_0 : decode cX3_ceilingPowerOfTwo 0 = .ok (.iload_n 0, 1) := dk_26 (dk_at dksX3_ceilingPowerOfTwo_0 0 rfl rfl)
theorem dX3_ceilingPowerOfTwo_1 : decode cX3_ceilingPowerOfTwo 1 = .ok (.ldc 7, 2) := dk_18 7 (dk_at dksX3_ceilingPowerOfTwo_0 1 rfl rfl)
theorem dX3_ceilingPowerOfTwo_3 : decode cX3_ceilingPowerOfTwo 3 = .ok (.if_icmp .le 6, 3) := dk_164 0 6 (dk_at dksX3_ceilingPowerOfTwo_0 3 rfl rfl)
theorem dX3_ceilingPowerOfTwo_6 : decode cX3_ceilingPowerOfTwo 6 = .ok (.ldc 7, 2) := dk_18 7 (dk_at dksX3_ceilingPowerOfTwo_0 6 rfl rfl)
theorem dX3_ceilingPowerOfTwo_8 : decode cX3_ceilingPowerOfTwo 8 = .ok (.ireturn, 1) := dk_172 (dk_at dksX3_ceilingPowerOfTwo_0 8 rfl rfl)
theorem dX3_ceilingPowerOfTwo_9 : decode cX3_ceilingPowerOfTwo 9 = .ok (.iconst 1, 1) := dk_4 (dk_at dksX3_ceilingPowerOfTwo_0 9 rfl rfl)
theorem dX3_ceilingPowerOfTwo_10 : decode cX3_ceilingPowerOfTwo 10 = .ok (.iload_n 0, 1) := dk_26 (dk_at dksX3_ceilingPowerOfTwo_0 10 rfl rfl)
theorem dX3_ceilingPowerOfTwo_11 : decode cX3_ceilingPowerOfTwo 11 = .ok (.iconst 1, 1) := dk_4 (dk_at dksX3_ceilingPowerOfTwo_0 11 rfl rfl)
theorem dX3_ceilingPowerOfTwo_12 : decode cX3_ceilingPowerOfTwo 12 = .ok (.isub, 1) := dk_100 (dk_at dksX3_ceilingPowerOfTwo_0 12 rfl rfl)
theorem dX3_ceilingPowerOfTwo_13 : decode cX3_ceilingPowerOfTwo 13 = .ok (.invokestatic 8, 3) := dk_184 0 8 (dk_at dksX3_ceilingPowerOfTwo_0 13 rfl rfl)
theorem dX3_ceilingPowerOfTwo_16 : decode cX3_ceilingPowerOfTwo 16 = .ok (.ineg, 1) := dk_116 (dk_at dksX3_ceilingPowerOfTwo_0 16 rfl rfl)
theorem dX3_ceilingPowerOfTwo_17 : decode cX3_ceilingPowerOfTwo 17 = .ok (.ishl, 1) := dk_120 (dk_at dksX3_ceilingPowerOfTwo_0 17 rfl rfl)
theorem dX3_ceilingPowerOfTwo_18 : decode cX3_ceilingPowerOfTwo 18 = .ok (.ireturn, 1) := dk_172 (dk_at dksX3_ceilingPowerOfTwo_0 18 rfl rfl)
theorem q4 : (Jvm.Cond.initialized "Caffeine") ∈ lw_all := lw_g (lw_at lw_m0 3 rfl) rfl
theorem q47 : (Jvm.Cond.static ({ cls := "Caffeine", name := "requireArgument", desc := "(Z)V" } : Jvm.MethodName)) ∈ lw_all := lw_g (lw_at lw_m0 46 rfl) rfl
theorem q48 : (Jvm.Cond.code ({ cls := "Caffeine", name := "requireArgument", desc := "(Z)V" } : Jvm.MethodName) prog_1_method_1_code (1 : Nat) (Option.none : Option Jvm.ClassFile.FieldType)) ∈ lw_all := lw_g (lw_at lw_m0 47 rfl) rfl
theorem q49 : (Jvm.Cond.classLink "Caffeine" (1 : Nat) "java/lang/IllegalArgumentException") ∈ lw_all := lw_g (lw_at lw_m0 48 rfl) rfl
theorem q88 : (Jvm.Cond.methodLink "Caffeine" (3 : Nat) ({ cls := "java/lang/IllegalArgumentException", name := "<init>", desc := "()V" } : Jvm.MethodName)) ∈ lw_all := lw_g (lw_at lw_m0 87 rfl) rfl
theorem q123 : (Jvm.Cond.static ({ cls := "Caffeine", name := "ceilingPowerOfTwo", desc := "(I)I" } : Jvm.MethodName)) ∈ lw_all := lw_g (lw_at lw_m0 122 rfl) rfl
theorem q124 : (Jvm.Cond.code ({ cls := "Caffeine", name := "ceilingPowerOfTwo", desc := "(I)I" } : Jvm.MethodName) prog_1_method_2_code (1 : Nat) (Option.some Jvm.ClassFile.FieldType.int)) ∈ lw_all := lw_g (lw_at lw_m0 123 rfl) rfl
theorem q125 : (Jvm.Cond.constant "Caffeine" (7 : Nat) (1073741824 : Int32)) ∈ lw_all := lw_g (lw_at lw_m0 124 rfl) rfl
theorem q126 : (Jvm.Cond.methodLink "Caffeine" (8 : Nat) ({ cls := "java/lang/Integer", name := "numberOfLeadingZeros", desc := "(I)I" } : Jvm.MethodName)) ∈ lw_all := lw_g (lw_at lw_m0 125 rfl) rfl
end
section
/-! java/lang/Math -/
set_option maxRecDepth 100000
def RJ4 : String := "java/lang/Math"
abbrev cJ4_min : ByteArray := prog_10_method_70_code
def yJ4_min : MethodName := ⟨RJ4, "min", "(JJ)J"⟩
def dkwJ4_min_0 : List UInt8 := [30, 32, 148, 157, 0, 7, 30, 167, 0, 4, 32, 173]
abbrev dktJ4_min_0 : List UInt8 := dkwJ4_min_0 ++ []
theorem dksJ4_min_0 : cJ4_min.data.toList.drop 0 = dktJ4_min_0 := by decide +kernel
theorem dJ4_min_0 : decode cJ4_min 0 = .ok (.lload_n 0, 1) := dk_30 (dk_at dksJ4_min_0 0 rfl rfl)
theorem dJ4_min_1 : decode cJ4_min 1 = .ok (.lload_n 2, 1) := dk_32 (dk_at dksJ4_min_0 1 rfl rfl)
theorem dJ4_min_2 : decode cJ4_min 2 = .ok (.lcmp, 1) := dk_148 (dk_at dksJ4_min_0 2 rfl rfl)
theorem dJ4_min_3 : decode cJ4_min 3 = .ok (.ifCond .gt 7, 3) := dk_157 0 7 (dk_at dksJ4_min_0 3 rfl rfl)
theorem dJ4_min_6 : decode cJ4_min 6 = .ok (.lload_n 0, 1) := dk_30 (dk_at dksJ4_min_0 6 rfl rfl)
theorem dJ4_min_7 : decode cJ4_min 7 = .ok (.goto 4, 3) := dk_167 0 4 (dk_at dksJ4_min_0 7 rfl rfl)
theorem dJ4_min_10 : decode cJ4_min 10 = .ok (.lload_n 2, 1) := dk_32 (dk_at dksJ4_min_0 10 rfl rfl)
theorem dJ4_min_11 : decode cJ4_min 11 = .ok (.lreturn, 1) := dk_173 (dk_at dksJ4_min_0 11 rfl rfl)
abbrev cJ4_max : ByteArray := prog_10_method_65_code
def yJ4_max : MethodName := ⟨RJ4, "max", "(II)I"⟩
def dkwJ4_max_0 : List UInt8 := [26, 27, 161, 0, 7, 26, 167, 0, 4, 27, 172]
abbrev dktJ4_max_0 : List UInt8 := dkwJ4_max_0 ++ []
theorem dksJ4_max_0 : cJ4_max.data.toList.drop 0 = dktJ4_max_0 := by decide +kernel
theorem dJ4_max_0 : decode cJ4_max 0 = .ok (.iload_n 0, 1) := dk_26 (dk_at dksJ4_max_0 0 rfl rfl)
theorem dJ4_max_1 : decode cJ4_max 1 = .ok (.iload_n 1, 1) := dk_27 (dk_at dksJ4_max_0 1 rfl rfl)
theorem dJ4_max_2 : decode cJ4_max 2 = .ok (.if_icmp .lt 7, 3) := dk_161 0 7 (dk_at dksJ4_max_0 2 rfl rfl)
theorem dJ4_max_5 : decode cJ4_max 5 = .ok (.iload_n 0, 1) := dk_26 (dk_at dksJ4_max_0 5 rfl rfl)
theorem dJ4_max_6 : decode cJ4_max 6 = .ok (.goto 4, 3) := dk_167 0 4 (dk_at dksJ4_max_0 6 rfl rfl)
theorem dJ4_max_9 : decode cJ4_max 9 = .ok (.iload_n 1, 1) := dk_27 (dk_at dksJ4_max_0 9 rfl rfl)
theorem dJ4_max_10 : decode cJ4_max 10 = .ok (.ireturn, 1) := dk_172 (dk_at dksJ4_max_0 10 rfl rfl)
abbrev cJ4_min_2 : ByteArray := prog_10_method_69_code
def yJ4_min_2 : MethodName := ⟨RJ4, "min", "(II)I"⟩
def dkwJ4_min_2_0 : List UInt8 := [26, 27, 163, 0, 7, 26, 167, 0, 4, 27, 172]
abbrev dktJ4_min_2_0 : List UInt8 := dkwJ4_min_2_0 ++ []
theorem dksJ4_min_2_0 : cJ4_min_2.data.toList.drop 0 = dktJ4_min_2_0 := by decide +kernel
theorem dJ4_min_2_0 : decode cJ4_min_2 0 = .ok (.iload_n 0, 1) := dk_26 (dk_at dksJ4_min_2_0 0 rfl rfl)
theorem dJ4_min_2_1 : decode cJ4_min_2 1 = .ok (.iload_n 1, 1) := dk_27 (dk_at dksJ4_min_2_0 1 rfl rfl)
theorem dJ4_min_2_2 : decode cJ4_min_2 2 = .ok (.if_icmp .gt 7, 3) := dk_163 0 7 (dk_at dksJ4_min_2_0 2 rfl rfl)
theorem dJ4_min_2_5 : decode cJ4_min_2 5 = .ok (.iload_n 0, 1) := dk_26 (dk_at dksJ4_min_2_0 5 rfl rfl)
theorem dJ4_min_2_6 : decode cJ4_min_2 6 = .ok (.goto 4, 3) := dk_167 0 4 (dk_at dksJ4_min_2_0 6 rfl rfl)
theorem dJ4_min_2_9 : decode cJ4_min_2 9 = .ok (.iload_n 1, 1) := dk_27 (dk_at dksJ4_min_2_0 9 rfl rfl)
theorem dJ4_min_2_10 : decode cJ4_min_2 10 = .ok (.ireturn, 1) := dk_172 (dk_at dksJ4_min_2_0 10 rfl rfl)
theorem q9 : (Jvm.Cond.initialized "java/lang/Math") ∈ lw_all := lw_g (lw_at lw_m0 8 rfl) rfl
theorem q112 : (Jvm.Cond.static ({ cls := "java/lang/Math", name := "min", desc := "(JJ)J" } : Jvm.MethodName)) ∈ lw_all := lw_g (lw_at lw_m0 111 rfl) rfl
theorem q113 : (Jvm.Cond.code ({ cls := "java/lang/Math", name := "min", desc := "(JJ)J" } : Jvm.MethodName) prog_10_method_70_code (4 : Nat) (Option.some Jvm.ClassFile.FieldType.long)) ∈ lw_all := lw_g (lw_at lw_m0 112 rfl) rfl
theorem q115 : (Jvm.Cond.static ({ cls := "java/lang/Math", name := "max", desc := "(II)I" } : Jvm.MethodName)) ∈ lw_all := lw_g (lw_at lw_m0 114 rfl) rfl
theorem q116 : (Jvm.Cond.code ({ cls := "java/lang/Math", name := "max", desc := "(II)I" } : Jvm.MethodName) prog_10_method_65_code (2 : Nat) (Option.some Jvm.ClassFile.FieldType.int)) ∈ lw_all := lw_g (lw_at lw_m0 115 rfl) rfl
theorem q120 : (Jvm.Cond.static ({ cls := "java/lang/Math", name := "min", desc := "(II)I" } : Jvm.MethodName)) ∈ lw_all := lw_g (lw_at lw_m0 119 rfl) rfl
theorem q121 : (Jvm.Cond.code ({ cls := "java/lang/Math", name := "min", desc := "(II)I" } : Jvm.MethodName) prog_10_method_69_code (2 : Nat) (Option.some Jvm.ClassFile.FieldType.int)) ∈ lw_all := lw_g (lw_at lw_m0 120 rfl) rfl
/-! java/lang/Number -/
set_option maxRecDepth 100000
def RJ5 : String := "java/lang/Number"
abbrev cJ5_init : ByteArray := prog_11_method_1_code
def yJ5_init : MethodName := ⟨RJ5, "<init>", "()V"⟩
theorem dJ5_init_0 : decode cJ5_init 0 = .ok (.aload_n 0, 1) := by decide +kernel
theorem dJ5_init_1 : decode cJ5_init 1 = .ok (.invokespecial 1, 3) := by decide +kernel
theorem dJ5_init_4 : decode cJ5_init 4 = .ok (.return_, 1) := by decide +kernel
theorem q10 : (Jvm.Cond.initialized "java/lang/Number") ∈ lw_all := lw_g (lw_at lw_m0 9 rfl) rfl
theorem q152 : (Jvm.Cond.instanceMethod ({ cls := "java/lang/Number", name := "<init>", desc := "()V" } : Jvm.MethodName)) ∈ lw_all := lw_g (lw_at lw_m0 151 rfl) rfl
theorem q153 : (Jvm.Cond.code ({ cls := "java/lang/Number", name := "<init>", desc := "()V" } : Jvm.MethodName) prog_11_method_1_code (1 : Nat) (Option.none : Option Jvm.ClassFile.FieldType)) ∈ lw_all := lw_g (lw_at lw_m0 152 rfl) rfl
theorem q154 : (Jvm.Cond.methodLink "java/lang/Number" (1 : Nat) ({ cls := "java/lang/Object", name := "<init>", desc := "()V" } : Jvm.MethodName)) ∈ lw_all := lw_g (lw_at lw_m0 153 rfl) rfl
/-! java/lang/Integer -/
set_option maxRecDepth 100000
def RJ6 : String := "java/lang/Integer"
def TJ6 : u_T := fun k => match k with
  | _ => ("java/lang/Integer", "value", "I", true)
def tyJ6 : Nat → FieldType := fun k => match k with
  | _ => .int
abbrev wsJ60 : List Cond := u_ws RJ6 TJ6 1
theorem nmJ6 : ∀ a, a < 1 → ∀ b, b < 1 → a ≠ b → (TJ6 a).2.1 ≠ (TJ6 b).2.1 := by decide +kernel
theorem tyJ6_ok : ∀ k, k < 1 → parseFieldDescriptor (TJ6 k).2.2.1 = some (tyJ6 k) := by decide +kernel
abbrev cJ6_numberOfLeadingZeros : ByteArray := prog_7_method_47_code
def yJ6_numberOfLeadingZeros : MethodName := ⟨RJ6, "numberOfLeadingZeros", "(I)I"⟩
def dkwJ6_numberOfLeadingZeros_3 : List UInt8 := [5, 124, 59, 27, 26, 4, 124, 100, 172]
abbrev dktJ6_numberOfLeadingZeros_3 : List UInt8 := dkwJ6_numberOfLeadingZeros_3 ++ []
def dkwJ6_numberOfLeadingZeros_2 : List UInt8 := [124, 59, 26, 16, 16, 161, 0, 10, 132, 1, 252, 26, 7, 124, 59, 26, 7, 161, 0, 10, 132, 1, 254, 26]
abbrev dktJ6_numberOfLeadingZeros_2 : List UInt8 := dkwJ6_numberOfLeadingZeros_2 ++ dktJ6_numberOfLeadingZeros_3
def dkwJ6_numberOfLeadingZeros_1 : List UInt8 := [161, 0, 11, 132, 1, 240, 26, 16, 16, 124, 59, 26, 17, 1, 0, 161, 0, 11, 132, 1, 248, 26, 16, 8]
abbrev dktJ6_numberOfLeadingZeros_1 : List UInt8 := dkwJ6_numberOfLeadingZeros_1 ++ dktJ6_numberOfLeadingZeros_2
def dkwJ6_numberOfLeadingZeros_0 : List UInt8 := [26, 157, 0, 14, 26, 154, 0, 8, 16, 32, 167, 0, 4, 3, 172, 16, 31, 60, 26, 19, 1, 8]
abbrev dktJ6_numberOfLeadingZeros_0 : List UInt8 := dkwJ6_numberOfLeadingZeros_0 ++ dktJ6_numberOfLeadingZeros_1
theorem dksJ6_numberOfLeadingZeros_0 : cJ6_numberOfLeadingZeros.data.toList.drop 0 = dktJ6_numberOfLeadingZeros_0 := by decide +kernel
theorem dksJ6_numberOfLeadingZeros_1 : cJ6_numberOfLeadingZeros.data.toList.drop 22 = dktJ6_numberOfLeadingZeros_1 := dk_seg dksJ6_numberOfLeadingZeros_0 22 rfl rfl
theorem dksJ6_numberOfLeadingZeros_2 : cJ6_numberOfLeadingZeros.data.toList.drop 46 = dktJ6_numberOfLeadingZeros_2 := dk_seg dksJ6_numberOfLeadingZeros_1 24 rfl rfl
theorem dksJ6_numberOfLeadingZeros_3 : cJ6_numberOfLeadingZeros.data.toList.drop 70 = dktJ6_numberOfLeadingZeros_3 := dk_seg dksJ6_numberOfLeadingZeros_2 24 rfl rfl
theorem dJ6_numberOfLeadingZeros_0 : decode cJ6_numberOfLeadingZeros 0 = .ok (.iload_n 0, 1) := dk_26 (dk_at dksJ6_numberOfLeadingZeros_0 0 rfl rfl)
theorem dJ6_numberOfLeadingZeros_1 : decode cJ6_numberOfLeadingZeros 1 = .ok (.ifCond .gt 14, 3) := dk_157 0 14 (dk_at dksJ6_numberOfLeadingZeros_0 1 rfl rfl)
theorem dJ6_numberOfLeadingZeros_4 : decode cJ6_numberOfLeadingZeros 4 = .ok (.iload_n 0, 1) := dk_26 (dk_at dksJ6_numberOfLeadingZeros_0 4 rfl rfl)
theorem dJ6_numberOfLeadingZeros_5 : decode cJ6_numberOfLeadingZeros 5 = .ok (.ifCond .ne 8, 3) := dk_154 0 8 (dk_at dksJ6_numberOfLeadingZeros_0 5 rfl rfl)
theorem dJ6_numberOfLeadingZeros_8 : decode cJ6_numberOfLeadingZeros 8 = .ok (.bipush 32, 2) := dk_16 32 (dk_at dksJ6_numberOfLeadingZeros_0 8 rfl rfl)
theorem dJ6_numberOfLeadingZeros_10 : decode cJ6_numberOfLeadingZeros 10 = .ok (.goto 4, 3) := dk_167 0 4 (dk_at dksJ6_numberOfLeadingZeros_0 10 rfl rfl)
theorem dJ6_numberOfLeadingZeros_13 : decode cJ6_numberOfLeadingZeros 13 = .ok (.iconst 0, 1) := dk_3 (dk_at dksJ6_numberOfLeadingZeros_0 13 rfl rfl)
theorem dJ6_numberOfLeadingZeros_14 : decode cJ6_numberOfLeadingZeros 14 = .ok (.ireturn, 1) := dk_172 (dk_at dksJ6_numberOfLeadingZeros_0 14 rfl rfl)
theorem dJ6_numberOfLeadingZeros_15 : decode cJ6_numberOfLeadingZeros 15 = .ok (.bipush 31, 2) := dk_16 31 (dk_at dksJ6_numberOfLeadingZeros_0 15 rfl rfl)
theorem dJ6_numberOfLeadingZeros_17 : decode cJ6_numberOfLeadingZeros 17 = .ok (.istore_n 1, 1) := dk_60 (dk_at dksJ6_numberOfLeadingZeros_0 17 rfl rfl)
theorem dJ6_numberOfLeadingZeros_18 : decode cJ6_numberOfLeadingZeros 18 = .ok (.iload_n 0, 1) := dk_26 (dk_at dksJ6_numberOfLeadingZeros_0 18 rfl rfl)
theorem dJ6_numberOfLeadingZeros_19 : decode cJ6_numberOfLeadingZeros 19 = .ok (.ldc_w 264, 3) := dk_19 1 8 (dk_at dksJ6_numberOfLeadingZeros_0 19 rfl rfl)
theorem dJ6_numberOfLeadingZeros_22 : decode cJ6_numberOfLeadingZeros 22 = .ok (.if_icmp .lt 11, 3) := dk_161 0 11 (dk_at dksJ6_numberOfLeadingZeros_1 0 rfl rfl)
theorem dJ6_numberOfLeadingZeros_25 : decode cJ6_numberOfLeadingZeros 25 = .ok (.iinc 1 (-16), 3) := dk_132 1 240 (dk_at dksJ6_numberOfLeadingZeros_1 3 rfl rfl)
theorem dJ6_numberOfLeadingZeros_28 : decode cJ6_numberOfLeadingZeros 28 = .ok (.iload_n 0, 1) := dk_26 (dk_at dksJ6_numberOfLeadingZeros_1 6 rfl rfl)
theorem dJ6_numberOfLeadingZeros_29 : decode cJ6_numberOfLeadingZeros 29 = .ok (.bipush 16, 2) := dk_16 16 (dk_at dksJ6_numberOfLeadingZeros_1 7 rfl rfl)
theorem dJ6_numberOfLeadingZeros_31 : decode cJ6_numberOfLeadingZeros 31 = .ok (.iushr, 1) := dk_124 (dk_at dksJ6_numberOfLeadingZeros_1 9 rfl rfl)
theorem dJ6_numberOfLeadingZeros_32 : decode cJ6_numberOfLeadingZeros 32 = .ok (.istore_n 0, 1) := dk_59 (dk_at dksJ6_numberOfLeadingZeros_1 10 rfl rfl)
theorem dJ6_numberOfLeadingZeros_33 : decode cJ6_numberOfLeadingZeros 33 = .ok (.iload_n 0, 1) := dk_26 (dk_at dksJ6_numberOfLeadingZeros_1 11 rfl rfl)
theorem dJ6_numberOfLeadingZeros_34 : decode cJ6_numberOfLeadingZeros 34 = .ok (.sipush 256, 3) := dk_17 1 0 (dk_at dksJ6_numberOfLeadingZeros_1 12 rfl rfl)
theorem dJ6_numberOfLeadingZeros_37 : decode cJ6_numberOfLeadingZeros 37 = .ok (.if_icmp .lt 11, 3) := dk_161 0 11 (dk_at dksJ6_numberOfLeadingZeros_1 15 rfl rfl)
theorem dJ6_numberOfLeadingZeros_40 : decode cJ6_numberOfLeadingZeros 40 = .ok (.iinc 1 (-8), 3) := dk_132 1 248 (dk_at dksJ6_numberOfLeadingZeros_1 18 rfl rfl)
theorem dJ6_numberOfLeadingZeros_43 : decode cJ6_numberOfLeadingZeros 43 = .ok (.iload_n 0, 1) := dk_26 (dk_at dksJ6_numberOfLeadingZeros_1 21 rfl rfl)
theorem dJ6_numberOfLeadingZeros_44 : decode cJ6_numberOfLeadingZeros 44 = .ok (.bipush 8, 2) := dk_16 8 (dk_at dksJ6_numberOfLeadingZeros_1 22 rfl rfl)
theorem dJ6_numberOfLeadingZeros_46 : decode cJ6_numberOfLeadingZeros 46 = .ok (.iushr, 1) := dk_124 (dk_at dksJ6_numberOfLeadingZeros_2 0 rfl rfl)
theorem dJ6_numberOfLeadingZeros_47 : decode cJ6_numberOfLeadingZeros 47 = .ok (.istore_n 0, 1) := dk_59 (dk_at dksJ6_numberOfLeadingZeros_2 1 rfl rfl)
theorem dJ6_numberOfLeadingZeros_48 : decode cJ6_numberOfLeadingZeros 48 = .ok (.iload_n 0, 1) := dk_26 (dk_at dksJ6_numberOfLeadingZeros_2 2 rfl rfl)
theorem dJ6_numberOfLeadingZeros_49 : decode cJ6_numberOfLeadingZeros 49 = .ok (.bipush 16, 2) := dk_16 16 (dk_at dksJ6_numberOfLeadingZeros_2 3 rfl rfl)
theorem dJ6_numberOfLeadingZeros_51 : decode cJ6_numberOfLeadingZeros 51 = .ok (.if_icmp .lt 10, 3) := dk_161 0 10 (dk_at dksJ6_numberOfLeadingZeros_2 5 rfl rfl)
theorem dJ6_numberOfLeadingZeros_54 : decode cJ6_numberOfLeadingZeros 54 = .ok (.iinc 1 (-4), 3) := dk_132 1 252 (dk_at dksJ6_numberOfLeadingZeros_2 8 rfl rfl)
theorem dJ6_numberOfLeadingZeros_57 : decode cJ6_numberOfLeadingZeros 57 = .ok (.iload_n 0, 1) := dk_26 (dk_at dksJ6_numberOfLeadingZeros_2 11 rfl rfl)
theorem dJ6_numberOfLeadingZeros_58 : decode cJ6_numberOfLeadingZeros 58 = .ok (.iconst 4, 1) := dk_7 (dk_at dksJ6_numberOfLeadingZeros_2 12 rfl rfl)
theorem dJ6_numberOfLeadingZeros_59 : decode cJ6_numberOfLeadingZeros 59 = .ok (.iushr, 1) := dk_124 (dk_at dksJ6_numberOfLeadingZeros_2 13 rfl rfl)
theorem dJ6_numberOfLeadingZeros_60 : decode cJ6_numberOfLeadingZeros 60 = .ok (.istore_n 0, 1) := dk_59 (dk_at dksJ6_numberOfLeadingZeros_2 14 rfl rfl)
theorem dJ6_numberOfLeadingZeros_61 : decode cJ6_numberOfLeadingZeros 61 = .ok (.iload_n 0, 1) := dk_26 (dk_at dksJ6_numberOfLeadingZeros_2 15 rfl rfl)
theorem dJ6_numberOfLeadingZeros_62 : decode cJ6_numberOfLeadingZeros 62 = .ok (.iconst 4, 1) := dk_7 (dk_at dksJ6_numberOfLeadingZeros_2 16 rfl rfl)
theorem dJ6_numberOfLeadingZeros_63 : decode cJ6_numberOfLeadingZeros 63 = .ok (.if_icmp .lt 10, 3) := dk_161 0 10 (dk_at dksJ6_numberOfLeadingZeros_2 17 rfl rfl)
theorem dJ6_numberOfLeadingZeros_66 : decode cJ6_numberOfLeadingZeros 66 = .ok (.iinc 1 (-2), 3) := dk_132 1 254 (dk_at dksJ6_numberOfLeadingZeros_2 20 rfl rfl)
theorem dJ6_numberOfLeadingZeros_69 : decode cJ6_numberOfLeadingZeros 69 = .ok (.iload_n 0, 1) := dk_26 (dk_at dksJ6_numberOfLeadingZeros_2 23 rfl rfl)
theorem dJ6_numberOfLeadingZeros_70 : decode cJ6_numberOfLeadingZeros 70 = .ok (.iconst 2, 1) := dk_5 (dk_at dksJ6_numberOfLeadingZeros_3 0 rfl rfl)
theorem dJ6_numberOfLeadingZeros_71 : decode cJ6_numberOfLeadingZeros 71 = .ok (.iushr, 1) := dk_124 (dk_at dksJ6_numberOfLeadingZeros_3 1 rfl rfl)
theorem dJ6_numberOfLeadingZeros_72 : decode cJ6_numberOfLeadingZeros 72 = .ok (.istore_n 0, 1) := dk_59 (dk_at dksJ6_numberOfLeadingZeros_3 2 rfl rfl)
theorem dJ6_numberOfLeadingZeros_73 : decode cJ6_numberOfLeadingZeros 73 = .ok (.iload_n 1, 1) := dk_27 (dk_at dksJ6_numberOfLeadingZeros_3 3 rfl rfl)
theorem dJ6_numberOfLeadingZeros_74 : decode cJ6_numberOfLeadingZeros 74 = .ok (.iload_n 0, 1) := dk_26 (dk_at dksJ6_numberOfLeadingZeros_3 4 rfl rfl)
theorem dJ6_numberOfLeadingZeros_75 : decode cJ6_numberOfLeadingZeros 75 = .ok (.iconst 1, 1) := dk_4 (dk_at dksJ6_numberOfLeadingZeros_3 5 rfl rfl)
theorem dJ6_numberOfLeadingZeros_76 : decode cJ6_numberOfLeadingZeros 76 = .ok (.iushr, 1) := dk_124 (dk_at dksJ6_numberOfLeadingZeros_3 6 rfl rfl)
theorem dJ6_numberOfLeadingZeros_77 : decode cJ6_numberOfLeadingZeros 77 = .ok (.isub, 1) := dk_100 (dk_at dksJ6_numberOfLeadingZeros_3 7 rfl rfl)
theorem dJ6_numberOfLeadingZeros_78 : decode cJ6_numberOfLeadingZeros 78 = .ok (.ireturn, 1) := dk_172 (dk_at dksJ6_numberOfLeadingZeros_3 8 rfl rfl)
abbrev cJ6_valueOf : ByteArray := prog_7_method_22_code
def yJ6_valueOf : MethodName := ⟨RJ6, "valueOf", "(I)Ljava/lang/Integer;"⟩
def dkwJ6_valueOf_1 : List UInt8 := [187, 0, 1, 89, 26, 183, 0, 199, 176]
abbrev dktJ6_valueOf_1 : List UInt8 := dkwJ6_valueOf_1 ++ []
def dkwJ6_valueOf_0 : List UInt8 := [26, 16, 128, 161, 0, 20, 26, 178, 0, 191, 163, 0, 13, 178, 0, 195, 26, 17, 0, 128, 96, 50, 176]
abbrev dktJ6_valueOf_0 : List UInt8 := dkwJ6_valueOf_0 ++ dktJ6_valueOf_1
theorem dksJ6_valueOf_0 : cJ6_valueOf.data.toList.drop 0 = dktJ6_valueOf_0 := by decide +kernel
theorem dksJ6_valueOf_1 : cJ6_valueOf.data.toList.drop 23 = dktJ6_valueOf_1 := dk_seg dksJ6_valueOf_0 23 rfl rfl
theorem dJ6_valueOf_0 : decode cJ6_valueOf 0 = .ok (.iload_n 0, 1) := dk_26 (dk_at dksJ6_valueOf_0 0 rfl rfl)
theorem dJ6_valueOf_1 : decode cJ6_valueOf 1 = .ok (.bipush (-128), 2) := dk_16 128 (dk_at dksJ6_valueOf_0 1 rfl rfl)
theorem dJ6_valueOf_3 : decode cJ6_valueOf 3 = .ok (.if_icmp .lt 20, 3) := dk_161 0 20 (dk_at dksJ6_valueOf_0 3 rfl rfl)
theorem dJ6_valueOf_6 : decode cJ6_valueOf 6 = .ok (.iload_n 0, 1) := dk_26 (dk_at dksJ6_valueOf_0 6 rfl rfl)
theorem dJ6_valueOf_7 : decode cJ6_valueOf 7 = .ok (.getstatic 191, 3) := dk_178 0 191 (dk_at dksJ6_valueOf_0 7 rfl rfl)
theorem dJ6_valueOf_10 : decode cJ6_valueOf 10 = .ok (.if_icmp .gt 13, 3) := dk_163 0 13 (dk_at dksJ6_valueOf_0 10 rfl rfl)
theorem dJ6_valueOf_13 : decode cJ6_valueOf 13 = .ok (.getstatic 195, 3) := dk_178 0 195 (dk_at dksJ6_valueOf_0 13 rfl rfl)
theorem dJ6_valueOf_16 : decode cJ6_valueOf 16 = .ok (.iload_n 0, 1) := dk_26 (dk_at dksJ6_valueOf_0 16 rfl rfl)
theorem dJ6_valueOf_17 : decode cJ6_valueOf 17 = .ok (.sipush 128, 3) := dk_17 0 128 (dk_at dksJ6_valueOf_0 17 rfl rfl)
theorem dJ6_valueOf_20 : decode cJ6_valueOf 20 = .ok (.iadd, 1) := dk_96 (dk_at dksJ6_valueOf_0 20 rfl rfl)
theorem dJ6_valueOf_21 : decode cJ6_valueOf 21 = .ok (.aaload, 1) := dk_50 (dk_at dksJ6_valueOf_0 21 rfl rfl)
theorem dJ6_valueOf_22 : decode cJ6_valueOf 22 = .ok (.areturn, 1) := dk_176 (dk_at dksJ6_valueOf_0 22 rfl rfl)
theorem dJ6_valueOf_23 : decode cJ6_valueOf 23 = .ok (.new 1, 3) := dk_187 0 1 (dk_at dksJ6_valueOf_1 0 rfl rfl)
theorem dJ6_valueOf_26 : decode cJ6_valueOf 26 = .ok (.dup, 1) := dk_89 (dk_at dksJ6_valueOf_1 3 rfl rfl)
theorem dJ6_valueOf_27 : decode cJ6_valueOf 27 = .ok (.iload_n 0, 1) := dk_26 (dk_at dksJ6_valueOf_1 4 rfl rfl)
theorem dJ6_valueOf_28 : decode cJ6_valueOf 28 = .ok (.invokespecial 199, 3) := dk_183 0 199 (dk_at dksJ6_valueOf_1 5 rfl rfl)
theorem dJ6_valueOf_31 : decode cJ6_valueOf 31 = .ok (.areturn, 1) := dk_176 (dk_at dksJ6_valueOf_1 8 rfl rfl)
abbrev cJ6_init : ByteArray := prog_7_method_23_code
def yJ6_init : MethodName := ⟨RJ6, "<init>", "(I)V"⟩
def dkwJ6_init_0 : List UInt8 := [42, 183, 0, 202, 42, 27, 181, 0, 205, 177]
abbrev dktJ6_init_0 : List UInt8 := dkwJ6_init_0 ++ []
theorem dksJ6_init_0 : cJ6_init.data.toList.drop 0 = dktJ6_init_0 := by decide +kernel
theorem dJ6_init_0 : decode cJ6_init 0 = .ok (.aload_n 0, 1) := dk_42 (dk_at dksJ6_init_0 0 rfl rfl)
theorem dJ6_init_1 : decode cJ6_init 1 = .ok (.invokespecial 202, 3) := dk_183 0 202 (dk_at dksJ6_init_0 1 rfl rfl)
theorem dJ6_init_4 : decode cJ6_init 4 = .ok (.aload_n 0, 1) := dk_42 (dk_at dksJ6_init_0 4 rfl rfl)
theorem dJ6_init_5 : decode cJ6_init 5 = .ok (.iload_n 1, 1) := dk_27 (dk_at dksJ6_init_0 5 rfl rfl)
theorem dJ6_init_6 : decode cJ6_init 6 = .ok (.putfield 205, 3) := dk_181 0 205 (dk_at dksJ6_init_0 6 rfl rfl)
theorem dJ6_init_9 : decode cJ6_init 9 = .ok (.return_, 1) := dk_177 (dk_at dksJ6_init_0 9 rfl rfl)
abbrev cJ6_hashCode : ByteArray := prog_7_method_32_code
def yJ6_hashCode : MethodName := ⟨RJ6, "hashCode", "()I"⟩
def dkwJ6_hashCode_0 : List UInt8 := [42, 180, 0, 205, 184, 0, 208, 172]
abbrev dktJ6_hashCode_0 : List UInt8 := dkwJ6_hashCode_0 ++ []
theorem dksJ6_hashCode_0 : cJ6_hashCode.data.toList.drop 0 = dktJ6_hashCode_0 := by decide +kernel
theorem dJ6_hashCode_0 : decode cJ6_hashCode 0 = .ok (.aload_n 0, 1) := dk_42 (dk_at dksJ6_hashCode_0 0 rfl rfl)
theorem dJ6_hashCode_1 : decode cJ6_hashCode 1 = .ok (.getfield 205, 3) := dk_180 0 205 (dk_at dksJ6_hashCode_0 1 rfl rfl)
theorem dJ6_hashCode_4 : decode cJ6_hashCode 4 = .ok (.invokestatic 208, 3) := dk_184 0 208 (dk_at dksJ6_hashCode_0 4 rfl rfl)
theorem dJ6_hashCode_7 : decode cJ6_hashCode 7 = .ok (.ireturn, 1) := dk_172 (dk_at dksJ6_hashCode_0 7 rfl rfl)
abbrev cJ6_hashCode_2 : ByteArray := prog_7_method_33_code
def yJ6_hashCode_2 : MethodName := ⟨RJ6, "hashCode", "(I)I"⟩
theorem dJ6_hashCode_2_0 : decode cJ6_hashCode_2 0 = .ok (.iload_n 0, 1) := by decide +kernel
theorem dJ6_hashCode_2_1 : decode cJ6_hashCode_2 1 = .ok (.ireturn, 1) := by decide +kernel
theorem q11 : (Jvm.Cond.initialized "java/lang/Integer") ∈ lw_all := lw_g (lw_at lw_m0 10 rfl) rfl
theorem q127 : (Jvm.Cond.static ({ cls := "java/lang/Integer", name := "numberOfLeadingZeros", desc := "(I)I" } : Jvm.MethodName)) ∈ lw_all := lw_g (lw_at lw_m0 126 rfl) rfl
theorem q128 : (Jvm.Cond.code ({ cls := "java/lang/Integer", name := "numberOfLeadingZeros", desc := "(I)I" } : Jvm.MethodName) prog_7_method_47_code (2 : Nat) (Option.some Jvm.ClassFile.FieldType.int)) ∈ lw_all := lw_g (lw_at lw_m0 127 rfl) rfl
theorem q129 : (Jvm.Cond.constant "java/lang/Integer" (264 : Nat) (65536 : Int32)) ∈ lw_all := lw_g (lw_at lw_m0 128 rfl) rfl
theorem q140 : (Jvm.Cond.static ({ cls := "java/lang/Integer", name := "valueOf", desc := "(I)Ljava/lang/Integer;" } : Jvm.MethodName)) ∈ lw_all := lw_g (lw_at lw_m0 139 rfl) rfl
theorem q141 : (Jvm.Cond.code ({ cls := "java/lang/Integer", name := "valueOf", desc := "(I)Ljava/lang/Integer;" } : Jvm.MethodName) prog_7_method_22_code (1 : Nat) (Option.some (Jvm.ClassFile.FieldType.object "java/lang/Integer"))) ∈ lw_all := lw_g (lw_at lw_m0 140 rfl) rfl
theorem q142 : (Jvm.Cond.fieldLink "java/lang/Integer" (191 : Nat) "java/lang/Integer$IntegerCache" "high" "I") ∈ lw_all := lw_g (lw_at lw_m0 141 rfl) rfl
theorem q144 : (Jvm.Cond.fieldLink "java/lang/Integer" (195 : Nat) "java/lang/Integer$IntegerCache" "cache" "[Ljava/lang/Integer;") ∈ lw_all := lw_g (lw_at lw_m0 143 rfl) rfl
theorem q146 : (Jvm.Cond.classLink "java/lang/Integer" (1 : Nat) "java/lang/Integer") ∈ lw_all := lw_g (lw_at lw_m0 145 rfl) rfl
theorem q147 : (Jvm.Cond.instantiable "java/lang/Integer" (1 : Nat)) ∈ lw_all := lw_g (lw_at lw_m0 146 rfl) rfl
theorem q148 : (Jvm.Cond.methodLink "java/lang/Integer" (199 : Nat) ({ cls := "java/lang/Integer", name := "<init>", desc := "(I)V" } : Jvm.MethodName)) ∈ lw_all := lw_g (lw_at lw_m0 147 rfl) rfl
theorem q149 : (Jvm.Cond.instanceMethod ({ cls := "java/lang/Integer", name := "<init>", desc := "(I)V" } : Jvm.MethodName)) ∈ lw_all := lw_g (lw_at lw_m0 148 rfl) rfl
theorem q150 : (Jvm.Cond.code ({ cls := "java/lang/Integer", name := "<init>", desc := "(I)V" } : Jvm.MethodName) prog_7_method_23_code (2 : Nat) (Option.none : Option Jvm.ClassFile.FieldType)) ∈ lw_all := lw_g (lw_at lw_m0 149 rfl) rfl
theorem q151 : (Jvm.Cond.methodLink "java/lang/Integer" (202 : Nat) ({ cls := "java/lang/Number", name := "<init>", desc := "()V" } : Jvm.MethodName)) ∈ lw_all := lw_g (lw_at lw_m0 150 rfl) rfl
theorem q155 : (Jvm.Cond.fieldLink "java/lang/Integer" (205 : Nat) "java/lang/Integer" "value" "I") ∈ lw_all := lw_g (lw_at lw_m0 154 rfl) rfl
theorem q156 : (Jvm.Cond.laysFinal "java/lang/Integer" "java/lang/Integer" "value" "I") ∈ lw_all := lw_g (lw_at lw_m0 155 rfl) rfl
theorem q157 : (Jvm.Cond.soleField "java/lang/Integer" "value") ∈ lw_all := lw_g (lw_at lw_m0 156 rfl) rfl
theorem q158 : (Jvm.Cond.superclass "java/lang/Integer" "java/lang/Number") ∈ lw_all := lw_g (lw_at lw_m0 157 rfl) rfl
theorem q173 : (Jvm.Cond.selects "java/lang/Integer" ({ cls := "java/lang/Object", name := "hashCode", desc := "()I" } : Jvm.MethodName) ({ cls := "java/lang/Integer", name := "hashCode", desc := "()I" } : Jvm.MethodName)) ∈ lw_all := lw_g (lw_at lw_m0 172 rfl) rfl
theorem q174 : (Jvm.Cond.instanceMethod ({ cls := "java/lang/Integer", name := "hashCode", desc := "()I" } : Jvm.MethodName)) ∈ lw_all := lw_g (lw_at lw_m0 173 rfl) rfl
theorem q175 : (Jvm.Cond.code ({ cls := "java/lang/Integer", name := "hashCode", desc := "()I" } : Jvm.MethodName) prog_7_method_32_code (1 : Nat) (Option.some Jvm.ClassFile.FieldType.int)) ∈ lw_all := lw_g (lw_at lw_m0 174 rfl) rfl
theorem q176 : (Jvm.Cond.methodLink "java/lang/Integer" (208 : Nat) ({ cls := "java/lang/Integer", name := "hashCode", desc := "(I)I" } : Jvm.MethodName)) ∈ lw_all := lw_g (lw_at lw_m0 175 rfl) rfl
theorem q177 : (Jvm.Cond.static ({ cls := "java/lang/Integer", name := "hashCode", desc := "(I)I" } : Jvm.MethodName)) ∈ lw_all := lw_g (lw_at lw_m0 176 rfl) rfl
theorem q178 : (Jvm.Cond.code ({ cls := "java/lang/Integer", name := "hashCode", desc := "(I)I" } : Jvm.MethodName) prog_7_method_33_code (1 : Nat) (Option.some Jvm.ClassFile.FieldType.int)) ∈ lw_all := lw_g (lw_at lw_m0 177 rfl) rfl
theorem in_J6 : ∀ w ∈ wsJ60, w ∈ lw_all := lw_in wsJ60 [156] (by decide +kernel) (by decide +kernel)
/-! java/lang/Object -/
set_option maxRecDepth 100000
def RJ8 : String := "java/lang/Object"
abbrev cJ8_init : ByteArray := object_method_1_code
def yJ8_init : MethodName := ⟨RJ8, "<init>", "()V"⟩
theorem dJ8_init_0 : decode cJ8_init 0 = .ok (.return_, 1) := by decide +kernel
theorem q20 : (Jvm.Cond.instanceMethod ({ cls := "java/lang/Object", name := "<init>", desc := "()V" } : Jvm.MethodName)) ∈ lw_all := lw_g (lw_at lw_m0 19 rfl) rfl
theorem q21 : (Jvm.Cond.code ({ cls := "java/lang/Object", name := "<init>", desc := "()V" } : Jvm.MethodName) object_method_1_code (1 : Nat) (Option.none : Option Jvm.ClassFile.FieldType)) ∈ lw_all := lw_g (lw_at lw_m0 20 rfl) rfl
theorem q168 : (Jvm.Cond.instanceMethod ({ cls := "java/lang/Object", name := "hashCode", desc := "()I" } : Jvm.MethodName)) ∈ lw_all := lw_g (lw_at lw_m0 167 rfl) rfl
theorem q169 : (Jvm.Cond.sameMethod "java/lang/Object" "java/lang/Object" "hashCode" "()I") ∈ lw_all := lw_g (lw_at lw_m0 168 rfl) rfl
theorem q179 : (Jvm.Cond.native ({ cls := "java/lang/Object", name := "hashCode", desc := "()I" } : Jvm.MethodName)) ∈ lw_all := lw_g (lw_at lw_m0 178 rfl) rfl
theorem q225 : (Jvm.Cond.initialized "java/lang/Object") ∈ lw_all := lw_g (lw_at lw_m0 224 rfl) rfl
theorem q12 : (Jvm.Cond.initialized "java/lang/Integer$IntegerCache") ∈ lw_all := lw_g (lw_at lw_m0 11 rfl) rfl
set_option maxRecDepth 100000
theorem q143 : (Jvm.Cond.laysStatic "java/lang/Integer$IntegerCache" "high" "I") ∈ lw_tbl := lw_at lw_m0 142 rfl
theorem q145 : (Jvm.Cond.laysStatic "java/lang/Integer$IntegerCache" "cache" "[Ljava/lang/Integer;") ∈ lw_tbl := lw_at lw_m0 144 rfl
theorem q134 : (Jvm.Cond.arrayClass Jvm.ClassFile.FieldType.long) ∈ lw_all := lw_g (lw_at lw_m0 133 rfl) rfl
set_option maxRecDepth 100000
end
section
/-! numbers of Int64 words (the kit's family wb_, pasted) -/
theorem wb_tb (n : Nat) : (lN n).toBitVec = BitVec.ofNat 64 n := rfl
theorem wb_inj {a b : Int64} (h : a.toBitVec = b.toBitVec) : a = b := Int64.toBitVec_inj.mp h
theorem wb_tn {n : Nat} (h : n < 2 ^ 64) : (lN n).toBitVec.toNat = n := by rw [wb_tb, BitVec.toNat_ofNat, Nat.mod_eq_of_lt h]
theorem wb_of (x : Int64) : ∃ n, n < 2 ^ 64 ∧ x = lN n := ⟨x.toBitVec.toNat, x.toBitVec.isLt, wb_inj (by rw [wb_tb]; simp)⟩
theorem wb_of32 (x : Int32) : ∃ n, n < 2 ^ 32 ∧ x = nI n := ⟨x.toBitVec.toNat, x.toBitVec.isLt, Int32.toBitVec_inj.mp (by show _ = BitVec.ofNat 32 _; simp)⟩
theorem wb_c : ∀ k, k < 64 → ((nI k).toInt64 &&& 63) = lN k := by decide +kernel
theorem wb_cu : ∀ k, k < 64 → ((nI k).toInt64.toUInt64 &&& Int64.toUInt64 63) = UInt64.ofNat k := by decide +kernel
theorem wb_sm : ∀ k, k < 64 → (BitVec.ofNat 64 k).smod 64 = BitVec.ofNat 64 k := by decide +kernel
theorem wb_pw {a b : Nat} (h : a ≤ b) : 2 ^ b = 2 ^ a * 2 ^ (b - a) := by rw [← Nat.pow_add]; congr 1; omega
theorem wb_lt2 {a b : Nat} (h : a < b) : 2 ^ a < 2 ^ b := Nat.pow_lt_pow_right (by decide) h
theorem wb_mod (n : Nat) : lN n = lN (n % 2 ^ 64) := wb_inj (by rw [wb_tb, wb_tb]; apply BitVec.eq_of_toNat_eq; rw [BitVec.toNat_ofNat, BitVec.toNat_ofNat, Nat.mod_mod])
theorem wb_shr {n k : Nat} (hn : n < 2 ^ 64) (hk : k < 64) : ((lN n).toUInt64 >>> ((nI k).toInt64.toUInt64 &&& Int64.toUInt64 63)).toInt64 = lN (n / 2 ^ k) := by
  rw [wb_cu k hk]
  apply wb_inj
  apply BitVec.eq_of_toNat_eq
  show ((lN n).toUInt64 >>> UInt64.ofNat k).toNat = (BitVec.ofNat 64 _).toNat
  have h1 : (UInt64.ofNat k).toNat = k := by
    show (BitVec.ofNat 64 k).toNat = k
    rw [BitVec.toNat_ofNat, Nat.mod_eq_of_lt (by omega)]
  have h2 : (lN n).toUInt64.toNat = n := wb_tn hn
  rw [UInt64.toNat_shiftRight, h1, h2, Nat.mod_eq_of_lt hk, Nat.shiftRight_eq_div_pow, BitVec.toNat_ofNat, Nat.mod_eq_of_lt (Nat.lt_of_le_of_lt (Nat.div_le_self _ _) hn)]
theorem wb_shl (n : Nat) {k : Nat} (hk : k < 64) : lN n <<< ((nI k).toInt64 &&& 63) = lN (n * 2 ^ k) := by
  rw [wb_c k hk]
  apply wb_inj
  rw [Int64.toBitVec_shiftLeft, wb_tb, wb_tb, wb_tb, wb_sm k hk]
  apply BitVec.eq_of_toNat_eq
  rw [BitVec.shiftLeft_eq', BitVec.toNat_shiftLeft, BitVec.toNat_ofNat, BitVec.toNat_ofNat, BitVec.toNat_ofNat, Nat.mod_eq_of_lt (show k < 2 ^ 64 by omega), Nat.shiftLeft_eq, Nat.mul_mod, Nat.mod_mod, ← Nat.mul_mod]
theorem wb_and {a b : Nat} (ha : a < 2 ^ 64) (hb : b < 2 ^ 64) : lN a &&& lN b = lN (a &&& b) := by
  apply wb_inj
  rw [Int64.toBitVec_and, wb_tb, wb_tb, wb_tb]
  apply BitVec.eq_of_toNat_eq
  rw [BitVec.toNat_and, BitVec.toNat_ofNat, BitVec.toNat_ofNat, BitVec.toNat_ofNat, Nat.mod_eq_of_lt ha, Nat.mod_eq_of_lt hb, Nat.mod_eq_of_lt (Nat.and_lt_two_pow _ hb)]
theorem wb_or {a b : Nat} (ha : a < 2 ^ 64) (hb : b < 2 ^ 64) : lN a ||| lN b = lN (a ||| b) := by
  apply wb_inj
  rw [Int64.toBitVec_or, wb_tb, wb_tb, wb_tb]
  apply BitVec.eq_of_toNat_eq
  rw [BitVec.toNat_or, BitVec.toNat_ofNat, BitVec.toNat_ofNat, BitVec.toNat_ofNat, Nat.mod_eq_of_lt ha, Nat.mod_eq_of_lt hb, Nat.mod_eq_of_lt (Nat.or_lt_two_pow ha hb)]
theorem wb_mask {n k : Nat} (hn : n < 2 ^ 64) (hk : k < 64) : lN n &&& lN (2 ^ k - 1) = lN (n % 2 ^ k) := by
  rw [wb_and hn (by have := wb_lt2 hk; omega), Nat.and_two_pow_sub_one_eq_mod]
theorem wb_a1 {n : Nat} (hn : n < 2 ^ 64) : lN n &&& 1 = lN (n % 2) := wb_mask (k := 1) hn (by decide)
theorem s_l : ∀ n, n < 32 → ((nI n &&& 31).toBitVec.smod 32).toNat = n := by decide +kernel
theorem s_u : ∀ n, n < 32 → (((nI n).toUInt32 &&& Int32.toUInt32 31).toBitVec % 32).toNat = n := by decide +kernel
/-! PLAIN LAWS: the hash, the places of a key's four counters, nibbles, the told value, a count -/
/-- x >>> y of an int, as the walk has it -/
def sk_us (x y : Int32) : Int32 := (x.toUInt32 >>> (y.toUInt32 &&& Int32.toUInt32 31)).toInt32
/-- x >>> y of a long -/
def sk_lus (x : Int64) (y : Int32) : Int64 := (x.toUInt64 >>> (y.toInt64.toUInt64 &&& Int64.toUInt64 63)).toInt64
/-- x << y of a long -/
def sk_ls (x : Int64) (y : Int32) : Int64 := x <<< (y.toInt64 &&& 63)
/-- an int's 32 bits as a number -/
def sk_n (x : Int32) : Nat := x.toBitVec.toNat
theorem sk_n_lt (x : Int32) : sk_n x < 4294967296 := x.toBitVec.isLt
theorem sk_n_inj {x y : Int32} (h : sk_n x = sk_n y) : x = y := Int32.toBitVec_inj.mp (BitVec.eq_of_toNat_eq h)
theorem sk_nI {n : Nat} (h : n < 4294967296) : sk_n (nI n) = n := pk_tn h
theorem sk_of (x : Int32) : x = nI (sk_n x) := sk_n_inj (sk_nI (sk_n_lt x)).symm
theorem sk_n_us (x : Int32) {k : Nat} (hk : k < 32) : sk_n (sk_us x (nI k)) = sk_n x / 2 ^ k := pk_ushr x (nI k) k (s_u k hk)
theorem sk_n_xor (x y : Int32) : sk_n (x ^^^ y) = sk_n x ^^^ sk_n y := by
  unfold sk_n
  rw [Int32.toBitVec_xor, BitVec.toNat_xor]
/-- x ^ (x >>> k) loses nothing -/
theorem sk_xinj {k a b : Nat} (hk : 0 < k) (ha : a < 4294967296) (hb : b < 4294967296) (h : a ^^^ (a / 2 ^ k) = b ^^^ (b / 2 ^ k)) : a = b := by
  have key : ∀ n i : Nat, 32 ≤ i + n → a.testBit i = b.testBit i := by
    intro n
    induction n with
    | zero =>
      intro i hi
      have hp : 4294967296 ≤ 2 ^ i := Nat.le_trans (by decide) (Nat.pow_le_pow_right (by decide) (show 32 ≤ i by omega))
      rw [Nat.testBit_lt_two_pow (Nat.lt_of_lt_of_le ha hp), Nat.testBit_lt_two_pow (Nat.lt_of_lt_of_le hb hp)]
    | succ n ih =>
      intro i hi
      have h1 := congrArg (fun z => Nat.testBit z i) h
      simp only [Nat.testBit_xor, Nat.testBit_div_two_pow] at h1
      rw [ih (i + k) (by omega)] at h1
      revert h1
      cases a.testBit i <;> cases b.testBit i <;> cases b.testBit (i + k) <;> decide
  exact Nat.eq_of_testBit_eq fun i => key 32 i (by omega)
def sk_xs (x : Int32) (k : Nat) : Int32 := x ^^^ sk_us x (nI k)
theorem sk_xs_inj {x y : Int32} {k : Nat} (h0 : 0 < k) (hk : k < 32) (h : sk_xs x k = sk_xs y k) : x = y := by
  have h1 := congrArg sk_n h
  unfold sk_xs at h1
  rw [sk_n_xor, sk_n_xor, sk_n_us x hk, sk_n_us y hk] at h1
  exact sk_n_inj (sk_xinj h0 (sk_n_lt x) (sk_n_lt y) h1)
theorem sk_mul_inj {x y c d : Int32} (hcd : c * d = 1) (h : x * c = y * c) : x = y := by
  have h1 := congrArg (fun z : Int32 => z * d) h
  simp only [Int32.mul_assoc, hcd, Int32.mul_one] at h1
  exact h1
/-- FrequencySketch.spread -/
def sk_sp (x : Int32) : Int32 := sk_xs (sk_xs (sk_xs x 17 * (-312814405)) 11 * (-1404298415)) 15
/-- FrequencySketch.rehash -/
def sk_rh (x : Int32) : Int32 := sk_xs (x * 830770091) 14
theorem sk_sp_inj {x y : Int32} (h : sk_sp x = sk_sp y) : x = y := by
  unfold sk_sp at h
  have h1 := sk_mul_inj (d := 1184763313) (by decide) (sk_xs_inj (by decide) (by decide) h)
  have h2 := sk_mul_inj (d := 2041073779) (by decide) (sk_xs_inj (by decide) (by decide) h1)
  exact sk_xs_inj (by decide) (by decide) h2
theorem sk_rh_inj {x y : Int32} (h : sk_rh x = sk_rh y) : x = y := by
  unfold sk_rh at h
  exact sk_mul_inj (d := 850532099) (by decide) (sk_xs_inj (by decide) (by decide) h)
/-- a key's block and its counter hash, as numbers -/
def sk_B (k : Int32) : Nat := sk_n (sk_sp k) % 32
def sk_C (k : Int32) : Nat := sk_n (sk_rh (sk_sp k))
theorem sk_C_lt (k : Int32) : sk_C k < 4294967296 := sk_n_lt _
theorem sk_C_inj {x y : Int32} (h : sk_C x = sk_C y) : x = y := sk_sp_inj (sk_rh_inj (sk_n_inj h))
/-- the word and the nibble of a key's i-th counter -/
def sk_sl (k : Int32) (i : Nat) : Nat := 8 * sk_B k + sk_C k / 2 ^ (8 * i) % 2 + 2 * i
def sk_ix (k : Int32) (i : Nat) : Nat := sk_C k / 2 ^ (8 * i) / 2 % 16
theorem sk_sl_lt (k : Int32) {i : Nat} (hi : i < 4) : sk_sl k i < 256 := by
  have h1 : sk_B k < 32 := Nat.mod_lt _ (by decide)
  have h2 : sk_C k / 2 ^ (8 * i) % 2 < 2 := Nat.mod_lt _ (by decide)
  unfold sk_sl
  omega
theorem sk_ix_lt (k : Int32) (i : Nat) : sk_ix k i < 16 := Nat.mod_lt _ (by decide)
/-- a word tells which of the four it belongs to -/
theorem sk_sl_own {k f : Int32} {i j : Nat} (hi : i < 4) (hj : j < 4) (h : sk_sl k i = sk_sl f j) : i = j ∧ sk_C k / 2 ^ (8 * i) % 2 = sk_C f / 2 ^ (8 * j) % 2 := by
  have h2 : sk_C k / 2 ^ (8 * i) % 2 < 2 := Nat.mod_lt _ (by decide)
  have h3 : sk_C f / 2 ^ (8 * j) % 2 < 2 := Nat.mod_lt _ (by decide)
  unfold sk_sl at h
  omega
/-- nibble j of word s -/
def sk_cnt (a : Nat → Int64) (s j : Nat) : Nat := (a s).toBitVec.toNat / 2 ^ (4 * j) % 16
abbrev sk_G : Type := Nat → Nat → Nat
/-- the table's words hold the counters g -/
def sk_Rep (a : Nat → Int64) (g : sk_G) : Prop := ∀ s j, j < 16 → sk_cnt a s j = g s j
def sk_zero : sk_G := fun _ _ => 0
theorem sk_Rep_zero : sk_Rep (fun _ => 0) sk_zero := by
  intro s j _
  show (0 : Int64).toBitVec.toNat / 2 ^ (4 * j) % 16 = 0
  have h : (0 : Int64).toBitVec.toNat = 0 := rfl
  rw [h, Nat.zero_div]
theorem sk_Rep_lt {a : Nat → Int64} {g : sk_G} (h : sk_Rep a g) {s j : Nat} (hj : j < 16) : g s j ≤ 15 := by
  rw [← h s j hj]
  exact Nat.le_of_lt_succ (Nat.mod_lt _ (by decide))
/-- the least of the first n counters of k -/
def sk_m (g : sk_G) (k : Int32) : Nat → Nat
  | 0 => 2147483647
  | n + 1 => if g (sk_sl k n) (sk_ix k n) < sk_m g k n then g (sk_sl k n) (sk_ix k n) else sk_m g k n
/-- what the sketch tells of k -/
def sk_tv (g : sk_G) (k : Int32) : Nat := sk_m g k 4
theorem sk_m_le (g : sk_G) (k : Int32) (v : Nat) : ∀ n, v ≤ sk_m g k n ↔ (v ≤ 2147483647 ∧ ∀ i, i < n → v ≤ g (sk_sl k i) (sk_ix k i)) := by
  intro n
  induction n with
  | zero => exact ⟨fun h => ⟨h, fun i hi => absurd hi (Nat.not_lt_zero i)⟩, fun h => h.1⟩
  | succ n ih =>
    unfold sk_m
    constructor
    · intro h
      have h1 : v ≤ sk_m g k n ∧ v ≤ g (sk_sl k n) (sk_ix k n) := by
        split at h <;> omega
      refine ⟨(ih.mp h1.1).1, fun i hi => ?_⟩
      rcases Nat.lt_or_eq_of_le (Nat.le_of_lt_succ hi) with q | q
      · exact (ih.mp h1.1).2 i q
      · rw [q]; exact h1.2
    · intro h
      have h1 := ih.mpr ⟨h.1, fun i hi => h.2 i (Nat.lt_succ_of_lt hi)⟩
      have h2 := h.2 n (Nat.lt_succ_self n)
      split <;> omega
theorem sk_m_small (g : sk_G) (k : Int32) (n : Nat) : sk_m g k n ≤ 2147483647 := ((sk_m_le g k (sk_m g k n) n).mp (Nat.le_refl _)).1
theorem sk_tv_le {g : sk_G} {k : Int32} {v : Nat} : v ≤ sk_tv g k ↔ (v ≤ 2147483647 ∧ ∀ i, i < 4 → v ≤ g (sk_sl k i) (sk_ix k i)) := sk_m_le g k v 4
theorem sk_tv_at (g : sk_G) (k : Int32) {i : Nat} (hi : i < 4) : sk_tv g k ≤ g (sk_sl k i) (sk_ix k i) := (sk_tv_le.mp (Nat.le_refl _)).2 i hi
theorem sk_tv_eq {g : sk_G} {k : Int32} {v : Nat} (hv : v ≤ 2147483647) (h : ∀ i, i < 4 → g (sk_sl k i) (sk_ix k i) = v) : sk_tv g k = v := by
  apply Nat.le_antisymm
  · exact Nat.le_trans (sk_tv_at g k (show 0 < 4 by decide)) (Nat.le_of_eq (h 0 (by decide)))
  · exact sk_tv_le.mpr ⟨hv, fun i hi => Nat.le_of_eq (h i hi).symm⟩
theorem sk_tv_15 {g : sk_G} (hg : ∀ s j, j < 16 → g s j ≤ 15) (k : Int32) : sk_tv g k ≤ 15 := Nat.le_trans (sk_tv_at g k (show 0 < 4 by decide)) (hg _ _ (sk_ix_lt k 0))
theorem sk_tv_mono {g g' : sk_G} (h : ∀ s j, j < 16 → g s j ≤ g' s j) (k : Int32) : sk_tv g k ≤ sk_tv g' k :=
  sk_tv_le.mpr ⟨sk_m_small g k 4, fun i hi => Nat.le_trans (sk_tv_at g k hi) (h _ _ (sk_ix_lt k i))⟩
/-- one counter is raised, up to 15 -/
def sk_up (s0 j0 : Nat) (g : sk_G) : sk_G := fun s j => if s = s0 ∧ j = j0 then (if g s j < 15 then g s j + 1 else g s j) else g s j
theorem sk_up_ne {s0 j0 s j : Nat} {g : sk_G} (h : ¬ (s = s0 ∧ j = j0)) : sk_up s0 j0 g s j = g s j := if_neg h
theorem sk_up_eq (s0 j0 : Nat) (g : sk_G) : sk_up s0 j0 g s0 j0 = if g s0 j0 < 15 then g s0 j0 + 1 else g s0 j0 := if_pos ⟨rfl, rfl⟩
/-- one count of k -/
def sk_inc (k : Int32) (g : sk_G) : sk_G := sk_up (sk_sl k 3) (sk_ix k 3) (sk_up (sk_sl k 2) (sk_ix k 2) (sk_up (sk_sl k 1) (sk_ix k 1) (sk_up (sk_sl k 0) (sk_ix k 0) g)))
theorem sk_up_le (s0 j0 : Nat) (g : sk_G) (s j : Nat) : g s j ≤ sk_up s0 j0 g s j := by
  unfold sk_up
  split
  · split <;> omega
  · exact Nat.le_refl _
theorem sk_inc_le (k : Int32) (g : sk_G) (s j : Nat) : g s j ≤ sk_inc k g s j :=
  Nat.le_trans (sk_up_le _ _ g s j) (Nat.le_trans (sk_up_le _ _ _ s j) (Nat.le_trans (sk_up_le _ _ _ s j) (sk_up_le _ _ _ s j)))
/-- the counter (s, j) is one of k's four -/
def sk_hit (k : Int32) (s j : Nat) : Prop := ∃ i, i < 4 ∧ s = sk_sl k i ∧ j = sk_ix k i
theorem sk_inc_hit (k : Int32) (g : sk_G) {i : Nat} (hi : i < 4) : sk_inc k g (sk_sl k i) (sk_ix k i) = if g (sk_sl k i) (sk_ix k i) < 15 then g (sk_sl k i) (sk_ix k i) + 1 else g (sk_sl k i) (sk_ix k i) := by
  have ne : ∀ a b : Nat, a < 4 → b < 4 → a ≠ b → ¬ (sk_sl k a = sk_sl k b ∧ sk_ix k a = sk_ix k b) := fun a b ha hb hab h => hab (sk_sl_own ha hb h.1).1
  unfold sk_inc
  have h4 : i = 0 ∨ i = 1 ∨ i = 2 ∨ i = 3 := by omega
  rcases h4 with rfl | rfl | rfl | rfl
  · rw [sk_up_ne (ne 0 3 (by decide) (by decide) (by decide)), sk_up_ne (ne 0 2 (by decide) (by decide) (by decide)), sk_up_ne (ne 0 1 (by decide) (by decide) (by decide)), sk_up_eq]
  · rw [sk_up_ne (ne 1 3 (by decide) (by decide) (by decide)), sk_up_ne (ne 1 2 (by decide) (by decide) (by decide)), sk_up_eq, sk_up_ne (ne 1 0 (by decide) (by decide) (by decide))]
  · rw [sk_up_ne (ne 2 3 (by decide) (by decide) (by decide)), sk_up_eq, sk_up_ne (ne 2 1 (by decide) (by decide) (by decide)), sk_up_ne (ne 2 0 (by decide) (by decide) (by decide))]
  · rw [sk_up_eq, sk_up_ne (ne 3 2 (by decide) (by decide) (by decide)), sk_up_ne (ne 3 1 (by decide) (by decide) (by decide)), sk_up_ne (ne 3 0 (by decide) (by decide) (by decide))]
theorem sk_inc_miss {k : Int32} {g : sk_G} {s j : Nat} (h : ¬ sk_hit k s j) : sk_inc k g s j = g s j := by
  have h0 : ∀ i : Nat, i < 4 → ¬ (s = sk_sl k i ∧ j = sk_ix k i) := fun i hi q => h ⟨i, hi, q.1, q.2⟩
  unfold sk_inc
  rw [sk_up_ne (h0 3 (by decide)), sk_up_ne (h0 2 (by decide)), sk_up_ne (h0 1 (by decide)), sk_up_ne (h0 0 (by decide))]
/-- i counts of k alone -/
def sk_it (k : Int32) : Nat → sk_G
  | 0 => sk_zero
  | i + 1 => sk_inc k (sk_it k i)
theorem sk_it_hit (k : Int32) {q : Nat} (hq : q < 4) : ∀ i : Nat, sk_it k i (sk_sl k q) (sk_ix k q) = if i < 15 then i else 15 := by
  intro i
  induction i with
  | zero => rfl
  | succ i ih =>
    unfold sk_it
    rw [sk_inc_hit k _ hq, ih]
    repeat' split
    all_goals omega
theorem sk_it_miss {k : Int32} {s j : Nat} (h : ¬ sk_hit k s j) : ∀ i : Nat, sk_it k i s j = 0 := by
  intro i
  induction i with
  | zero => rfl
  | succ i ih =>
    unfold sk_it
    rw [sk_inc_miss h, ih]
theorem sk_it_tv (k : Int32) (i : Nat) : sk_tv (sk_it k i) k = if i < 15 then i else 15 :=
  sk_tv_eq (by split <;> omega) fun q hq => sk_it_hit k hq i
theorem sk_zero_tv (k : Int32) : sk_tv sk_zero k = 0 := sk_tv_eq (by decide) fun _ _ => rfl
end
section
/-! PLAIN LAWS, second part: what the walk's expressions are, by numbers; a raised nibble -/
theorem sk_idx (h : Int32) : (sk_us h 1) &&& 15 = nI (sk_n h / 2 % 16) := by
  rw [pk_and _ 4 (by decide)]
  unfold sk_us
  rw [pk_ushr h 1 1 (by decide)]
  rfl
theorem sk_off (h : Int32) : h &&& 1 = nI (sk_n h % 2) := by
  rw [pk_and _ 1 (by decide)]
  rfl
theorem sk_blk (x : Int32) : (x &&& 31) <<< ((3 : Int32) &&& 31) = nI (8 * (sk_n x % 32)) := by
  rw [pk_and _ 5 (by decide), pk_shlN _ 3 (by decide) (by have := Nat.mod_lt x.toBitVec.toNat (show 0 < 2 ^ 5 by decide); omega)]
  unfold sk_n
  congr 1
  omega
theorem sk_hi (c : Int32) {i : Nat} (hi : i < 4) : sk_n (sk_us c (nI i <<< ((3 : Int32) &&& 31))) = sk_n c / 2 ^ (8 * i) := by
  rw [pk_shlN _ 3 (by decide) (by omega), sk_n_us c (by omega)]
  congr 2
  omega
theorem sk_h8 (c : Int32) : sk_n (sk_us c 8) = sk_n c / 2 ^ (8 * 1) := pk_ushr c 8 8 (by decide)
theorem sk_h16 (c : Int32) : sk_n (sk_us c 16) = sk_n c / 2 ^ (8 * 2) := pk_ushr c 16 16 (by decide)
theorem sk_h24 (c : Int32) : sk_n (sk_us c 24) = sk_n c / 2 ^ (8 * 3) := pk_ushr c 24 24 (by decide)
theorem sk_i2 {i : Nat} (hi : i < 4) : nI i <<< ((1 : Int32) &&& 31) = nI (2 * i) := by
  rw [pk_shlN _ 1 (by decide) (by omega)]
  congr 1
  omega
theorem sk_j4 {j : Nat} (hj : j < 16) : nI j <<< ((2 : Int32) &&& 31) = nI (4 * j) := by
  rw [pk_shlN _ 2 (by decide) (by omega)]
  congr 1
  omega
/-- a nibble read -/
theorem sk_rd (w : Int64) {j : Nat} (hj : j < 16) : ((sk_lus w (nI (4 * j))) &&& 15).toInt32 = nI (w.toBitVec.toNat / 2 ^ (4 * j) % 16) := by
  obtain ⟨n, hn, rfl⟩ := wb_of w
  unfold sk_lus
  rw [wb_shr hn (show 4 * j < 64 by omega), wb_tn hn]
  have h : lN (n / 2 ^ (4 * j)) &&& 15 = lN (n / 2 ^ (4 * j) % 16) := wb_mask (n := n / 2 ^ (4 * j)) (k := 4) (Nat.lt_of_le_of_lt (Nat.div_le_self _ _) hn) (by decide)
  rw [h, lN_i]
theorem sk_and15 (n m : Nat) : n &&& (15 * 2 ^ m) = (n / 2 ^ m % 16) * 2 ^ m := by
  have e1 : (15 : Nat) = 2 ^ 4 - 1 := rfl
  have e2 : (16 : Nat) = 2 ^ 4 := rfl
  apply Nat.eq_of_testBit_eq
  intro i
  rw [e1, e2, Nat.testBit_and, Nat.testBit_mul_two_pow, Nat.testBit_mul_two_pow, Nat.testBit_mod_two_pow, Nat.testBit_div_two_pow, Nat.testBit_two_pow_sub_one]
  by_cases h : m ≤ i
  · rw [Nat.sub_add_cancel h]
    cases n.testBit i <;> simp [h]
  · simp [h]
theorem sk_p64 {j : Nat} (hj : j < 16) : 15 * 2 ^ (4 * j) < 2 ^ 64 := by
  have h : 2 ^ (4 * j) ≤ 2 ^ 60 := Nat.pow_le_pow_right (by decide) (by omega)
  have h2 : (2 : Nat) ^ 60 = 1152921504606846976 := by decide
  have h3 : (2 : Nat) ^ 64 = 18446744073709551616 := by decide
  omega
theorem sk_mask {j : Nat} (hj : j < 16) : sk_ls 15 (nI (4 * j)) = lN (15 * 2 ^ (4 * j)) := wb_shl 15 (show 4 * j < 64 by omega)
theorem sk_one {j : Nat} (hj : j < 16) : sk_ls 1 (nI (4 * j)) = lN (2 ^ (4 * j)) := by
  have h := wb_shl 1 (show 4 * j < 64 by omega)
  rw [Nat.one_mul] at h
  exact h
/-- the test of incrementAt -/
theorem sk_full (w : Int64) {j : Nat} (hj : j < 16) : (w &&& sk_ls 15 (nI (4 * j))) = sk_ls 15 (nI (4 * j)) ↔ w.toBitVec.toNat / 2 ^ (4 * j) % 16 = 15 := by
  obtain ⟨n, hn, rfl⟩ := wb_of w
  have hp : 0 < 2 ^ (4 * j) := Nat.two_pow_pos _
  rw [sk_mask hj, wb_and hn (sk_p64 hj), wb_tn hn, sk_and15]
  constructor
  · intro h
    have h1 := congrArg (fun z : Int64 => z.toBitVec.toNat) h
    have hb : (n / 2 ^ (4 * j) % 16) * 2 ^ (4 * j) ≤ 15 * 2 ^ (4 * j) := Nat.mul_le_mul_right _ (Nat.le_of_lt_succ (Nat.mod_lt _ (by decide)))
    simp only [wb_tn (Nat.lt_of_le_of_lt hb (sk_p64 hj)), wb_tn (sk_p64 hj)] at h1
    exact Nat.eq_of_mul_eq_mul_right hp h1
  · intro h
    rw [h]
/-- nibbles of n + 2^(4j), nibble j not full -/
theorem sk_nib {n j j' : Nat} (h : n / 2 ^ (4 * j) % 16 < 15) : (n + 2 ^ (4 * j)) / 2 ^ (4 * j') % 16 = if j' = j then n / 2 ^ (4 * j) % 16 + 1 else n / 2 ^ (4 * j') % 16 := by
  have hp : 0 < 2 ^ (4 * j) := Nat.two_pow_pos _
  have hp' : 0 < 2 ^ (4 * j') := Nat.two_pow_pos _
  rcases Nat.lt_trichotomy j' j with q | q | q
  · rw [if_neg (Nat.ne_of_lt q)]
    have e : 2 ^ (4 * j) = 2 ^ (4 * j') * (16 * 2 ^ (4 * (j - j' - 1))) := by
      have e16 : (16 : Nat) = 2 ^ 4 := rfl
      rw [e16, ← Nat.pow_add, ← Nat.pow_add]
      congr 1
      omega
    rw [e, Nat.add_mul_div_left _ _ hp', Nat.add_mul_mod_self_left]
  · subst q
    rw [if_pos rfl, Nat.add_div_right _ hp]
    omega
  · rw [if_neg (Nat.ne_of_gt q)]
    have e : 2 ^ (4 * j') = 2 ^ (4 * j) * (16 * 2 ^ (4 * (j' - j - 1))) := by
      have e16 : (16 : Nat) = 2 ^ 4 := rfl
      rw [e16, ← Nat.pow_add, ← Nat.pow_add]
      congr 1
      omega
    rw [e, ← Nat.div_div_eq_div_mul, ← Nat.div_div_eq_div_mul, ← Nat.div_div_eq_div_mul, ← Nat.div_div_eq_div_mul, Nat.add_div_right _ hp]
    have e2 : (n / 2 ^ (4 * j) + 1) / 16 = n / 2 ^ (4 * j) / 16 := by omega
    rw [e2]
theorem sk_nib64 (x : Nat) {j : Nat} (hj : j < 16) : x % 2 ^ 64 / 2 ^ (4 * j) % 16 = x / 2 ^ (4 * j) % 16 := by
  have e : (2 : Nat) ^ 64 = 2 ^ (4 * j) * (16 * 2 ^ (60 - 4 * j)) := by
    have e16 : (16 : Nat) = 2 ^ 4 := rfl
    rw [e16, ← Nat.pow_add, ← Nat.pow_add]
    congr 1
    omega
  rw [e, Nat.mod_mul_right_div_self, Nat.mod_mul_right_mod]
theorem sk_Rep_up {a : Nat → Int64} {g : sk_G} (h : sk_Rep a g) {s0 j0 : Nat} (hj : j0 < 16) (hg : g s0 j0 < 15) : sk_Rep (vp_updL a s0 (a s0 + sk_ls 1 (nI (4 * j0)))) (sk_up s0 j0 g) := by
  intro s j hj'
  unfold sk_up
  by_cases hs : s = s0
  · subst hs
    have h0 := h s j0 hj
    have h1 := h s j hj'
    unfold sk_cnt at h0 h1 ⊢
    rw [pk_uLs]
    obtain ⟨n, hn, e⟩ := wb_of (a s)
    rw [e, wb_tn hn] at h0 h1
    have h2 : n / 2 ^ (4 * j0) % 16 < 15 := by rw [h0]; exact hg
    rw [e, sk_one hj, lN_add, wb_tb, BitVec.toNat_ofNat, sk_nib64 _ hj', sk_nib h2]
    by_cases q : j = j0
    · subst q
      rw [if_pos rfl, if_pos ⟨rfl, rfl⟩, if_pos hg, h0]
    · rw [if_neg q, if_neg (fun z => q z.2), h1]
  · rw [if_neg (fun z => hs z.1)]
    have h1 := h s j hj'
    unfold sk_cnt at h1 ⊢
    rw [pk_uLn hs]
    exact h1
theorem sk_Rep_full {a : Nat → Int64} {g : sk_G} (h : sk_Rep a g) {s0 j0 : Nat} (hg : ¬ g s0 j0 < 15) : sk_Rep a (sk_up s0 j0 g) := by
  intro s j hj'
  unfold sk_up
  by_cases q : s = s0 ∧ j = j0
  · obtain ⟨rfl, rfl⟩ := q
    rw [if_pos ⟨rfl, rfl⟩, if_neg hg]
    exact h s j hj'
  · rw [if_neg q]
    exact h s j hj'
/-- Math.min of two small numbers -/
theorem sk_min {a b : Nat} (ha : a < 2 ^ 31) (hb : b < 2 ^ 31) : (if nI a < nI b then nI a else nI b) = nI (if a < b then a else b) := by
  by_cases h : a < b
  · rw [if_pos ((nI_ltI ha hb).mpr h), if_pos h]
  · rw [if_neg (fun z => h ((nI_ltI ha hb).mp z)), if_neg h]
/-- one turn of frequency's loop -/
theorem sk_turn {a : Nat → Int64} {g : sk_G} (h : sk_Rep a g) (k : Int32) {i : Nat} (hi : i < 4) {x7 x8 x9 x10 : Int32} (e7 : x7 = sk_us (sk_rh (sk_sp k)) (nI i <<< ((3 : Int32) &&& 31))) (e8 : x8 = (sk_us x7 1) &&& 15) (e9 : x9 = x7 &&& 1)
    (e10 : x10 = (sk_sp k &&& 31) <<< ((3 : Int32) &&& 31) + x9 + nI i <<< ((1 : Int32) &&& 31)) :
    x10 = nI (sk_sl k i) ∧ ((sk_lus (a x10.toNatClampNeg) (x8 <<< ((2 : Int32) &&& 31))) &&& 15).toInt32 = nI (g (sk_sl k i) (sk_ix k i)) := by
  have h7 : sk_n x7 = sk_C k / 2 ^ (8 * i) := by rw [e7]; exact sk_hi _ hi
  have h8 : x8 = nI (sk_ix k i) := by rw [e8, sk_idx, h7]; rfl
  have h10 : x10 = nI (sk_sl k i) := by
    rw [e10, e9, sk_blk, sk_off, sk_i2 hi, nI_add, nI_add, h7]
    rfl
  refine ⟨h10, ?_⟩
  rw [h8, sk_j4 (sk_ix_lt k i), h10, nI_clamp (Nat.lt_of_lt_of_le (sk_sl_lt k hi) (by decide)), sk_rd _ (sk_ix_lt k i)]
  have := h (sk_sl k i) (sk_ix k i) (sk_ix_lt k i)
  unfold sk_cnt at this
  rw [this]
/-- a word's place in increment: slots 1, 2, 3 (2 * i is added behind) -/
theorem sk_slot (k : Int32) {i : Nat} {h : Int32} (eh : sk_n h = sk_n (sk_rh (sk_sp k)) / 2 ^ (8 * i)) : (sk_sp k &&& 31) <<< ((3 : Int32) &&& 31) + (h &&& 1) + nI (2 * i) = nI (sk_sl k i) ∧ (sk_us h 1) &&& 15 = nI (sk_ix k i) := by
  constructor
  · rw [sk_blk, sk_off, nI_add, nI_add, eh]
    rfl
  · rw [sk_idx, eh]
    rfl
theorem sk_slot0 (k : Int32) : (sk_sp k &&& 31) <<< ((3 : Int32) &&& 31) + (sk_rh (sk_sp k) &&& 1) = nI (sk_sl k 0) ∧ (sk_us (sk_rh (sk_sp k)) 1) &&& 15 = nI (sk_ix k 0) := by
  have h := sk_slot k (i := 0) (h := sk_rh (sk_sp k)) (by rw [Nat.mul_zero, Nat.pow_zero, Nat.div_one])
  have e : (sk_sp k &&& 31) <<< ((3 : Int32) &&& 31) + (sk_rh (sk_sp k) &&& 1) + nI (2 * 0) = (sk_sp k &&& 31) <<< ((3 : Int32) &&& 31) + (sk_rh (sk_sp k) &&& 1) := Int32.add_zero _
  rw [e] at h
  exact h
end
section
/-! PLAIN LAWS, third part: what the law's checks rest on -/
/-- how many of the first n ints are v -/
def sk_ct (xs : Nat → Int32) (v : Int32) : Nat → Nat
  | 0 => 0
  | n + 1 => if xs n = v then sk_ct xs v n + 1 else sk_ct xs v n
theorem sk_ct_le (xs : Nat → Int32) (v : Int32) : ∀ n, sk_ct xs v n ≤ n := by
  intro n
  induction n with
  | zero => exact Nat.le_refl _
  | succ n ih =>
    unfold sk_ct
    split <;> omega
/-- every int's counters hold as many as it was counted, up to 15 -/
def sk_lo (g : sk_G) (xs : Nat → Int32) (n : Nat) : Prop := ∀ (v : Int32) (i : Nat), i < 4 → (if sk_ct xs v n < 15 then sk_ct xs v n else 15) ≤ g (sk_sl v i) (sk_ix v i)
theorem sk_lo_0 (g : sk_G) (xs : Nat → Int32) : sk_lo g xs 0 := fun _ _ _ => Nat.zero_le _
theorem sk_lo_s {g : sk_G} {xs : Nat → Int32} {n : Nat} (h : sk_lo g xs n) : sk_lo (sk_inc (xs n) g) xs (n + 1) := by
  intro v i hi
  have h1 := h v i hi
  unfold sk_ct
  by_cases q : xs n = v
  · rw [if_pos q]
    subst q
    rw [sk_inc_hit _ _ hi]
    revert h1
    repeat' split
    all_goals omega
  · rw [if_neg q]
    exact Nat.le_trans h1 (sk_inc_le _ g _ _)
theorem sk_lo_tv {g : sk_G} {xs : Nat → Int32} {n : Nat} (h : sk_lo g xs n) (v : Int32) : (if sk_ct xs v n < 15 then sk_ct xs v n else 15) ≤ sk_tv g v := by
  refine sk_tv_le.mpr ⟨?_, fun i hi => h v i hi⟩
  split <;> omega
/-- twenty bits of a key that seems counted, where only f was -/
theorem sk_sig {f k : Int32} {n : Nat} (h : 0 < sk_tv (sk_it f n) k) {q : Nat} (hq : q < 4) : sk_C k / 2 ^ (8 * q) % 32 = sk_C f / 2 ^ (8 * q) % 32 := by
  have h1 := Nat.lt_of_lt_of_le h (sk_tv_at (sk_it f n) k hq)
  by_cases hh : sk_hit f (sk_sl k q) (sk_ix k q)
  · obtain ⟨i, hi, e1, e2⟩ := hh
    obtain ⟨rfl, e3⟩ := sk_sl_own hq hi e1
    unfold sk_ix at e2
    generalize sk_C k / 2 ^ (8 * q) = X at e2 e3 ⊢
    generalize sk_C f / 2 ^ (8 * q) = Y at e2 e3 ⊢
    omega
  · rw [sk_it_miss hh] at h1
    omega
/-- the twelve other bits -/
def sk_r (k : Int32) : Nat := sk_C k / 32 % 8 + 8 * (sk_C k / 8192 % 8) + 64 * (sk_C k / 2097152 % 8) + 512 * (sk_C k / 536870912 % 8)
theorem sk_r_lt (k : Int32) : sk_r k < 4096 := by
  unfold sk_r
  omega
theorem sk_parts {c d : Nat} (hc : c < 4294967296) (hd : d < 4294967296) (h0 : c % 32 = d % 32) (h1 : c / 256 % 32 = d / 256 % 32) (h2 : c / 65536 % 32 = d / 65536 % 32) (h3 : c / 16777216 % 32 = d / 16777216 % 32)
    (g0 : c / 32 % 8 = d / 32 % 8) (g1 : c / 8192 % 8 = d / 8192 % 8) (g2 : c / 2097152 % 8 = d / 2097152 % 8) (g3 : c / 536870912 % 8 = d / 536870912 % 8) : c = d := by
  have a0 : c % 256 = d % 256 := by omega
  have a1 : c / 256 % 256 = d / 256 % 256 := by omega
  have a2 : c / 65536 % 256 = d / 65536 % 256 := by omega
  have a3 : c / 16777216 = d / 16777216 := by omega
  omega
theorem sk_sigP {f k k' : Int32} {n : Nat} (h : 0 < sk_tv (sk_it f n) k) (h' : 0 < sk_tv (sk_it f n) k') {q P : Nat} (hq : q < 4) (hP : 2 ^ (8 * q) = P) : sk_C k / P % 32 = sk_C k' / P % 32 := by
  rw [← hP]
  exact (sk_sig h hq).trans (sk_sig h' hq).symm
theorem sk_four {a0 a1 a2 a3 b0 b1 b2 b3 : Nat} (ha : a0 < 8 ∧ a1 < 8 ∧ a2 < 8 ∧ a3 < 8) (hb : b0 < 8 ∧ b1 < 8 ∧ b2 < 8 ∧ b3 < 8) (e : a0 + 8 * a1 + 64 * a2 + 512 * a3 = b0 + 8 * b1 + 64 * b2 + 512 * b3) : a0 = b0 ∧ a1 = b1 ∧ a2 = b2 ∧ a3 = b3 := by
  omega
theorem sk_m8 (z : Nat) : z % 8 < 8 := Nat.mod_lt _ (by decide)
theorem sk_r_inj {f k k' : Int32} {n : Nat} (h : 0 < sk_tv (sk_it f n) k) (h' : 0 < sk_tv (sk_it f n) k') (e : sk_r k = sk_r k') : k = k' := by
  have p0 := sk_sigP h h' (q := 0) (P := 1) (by decide) (by decide)
  have p1 := sk_sigP h h' (q := 1) (P := 256) (by decide) (by decide)
  have p2 := sk_sigP h h' (q := 2) (P := 65536) (by decide) (by decide)
  have p3 := sk_sigP h h' (q := 3) (P := 16777216) (by decide) (by decide)
  rw [Nat.div_one, Nat.div_one] at p0
  unfold sk_r at e
  obtain ⟨g0, g1, g2, g3⟩ := sk_four ⟨sk_m8 _, sk_m8 _, sk_m8 _, sk_m8 _⟩ ⟨sk_m8 _, sk_m8 _, sk_m8 _, sk_m8 _⟩ e
  exact sk_C_inj (sk_parts (sk_C_lt k) (sk_C_lt k') p0 p1 p2 p3 g0 g1 g2 g3)
/-- how many of f+1 .. f+m are told above 0 -/
def sk_ab (f : Int32) : Nat → Nat
  | 0 => 0
  | m + 1 => if 0 < sk_tv (sk_it f 15) (f + nI (m + 1)) then sk_ab f m + 1 else sk_ab f m
def sk_al (f : Int32) : Nat → List Nat
  | 0 => []
  | m + 1 => if 0 < sk_tv (sk_it f 15) (f + nI (m + 1)) then sk_r (f + nI (m + 1)) :: sk_al f m else sk_al f m
theorem sk_al_len (f : Int32) : ∀ m, (sk_al f m).length = sk_ab f m := by
  intro m
  induction m with
  | zero => rfl
  | succ m ih =>
    unfold sk_al sk_ab
    split
    · rw [List.length_cons, ih]
    · exact ih
theorem sk_al_mem (f : Int32) : ∀ m x, x ∈ sk_al f m → ∃ i, i ≤ m ∧ 0 < sk_tv (sk_it f 15) (f + nI i) ∧ x = sk_r (f + nI i) := by
  intro m
  induction m with
  | zero =>
    intro x hx
    exact absurd hx List.not_mem_nil
  | succ m ih =>
    intro x hx
    unfold sk_al at hx
    split at hx
    · rename_i hc
      rcases List.mem_cons.mp hx with q | q
      · exact ⟨m + 1, Nat.le_refl _, hc, q⟩
      · obtain ⟨i, h1, h2⟩ := ih x q
        exact ⟨i, Nat.le_succ_of_le h1, h2⟩
    · obtain ⟨i, h1, h2⟩ := ih x hx
      exact ⟨i, Nat.le_succ_of_le h1, h2⟩
theorem sk_al_nd (f : Int32) : ∀ m, m ≤ 8192 → (sk_al f m).Nodup := by
  intro m
  induction m with
  | zero => exact fun _ => List.nodup_nil
  | succ m ih =>
    intro hm
    unfold sk_al
    split
    · rename_i hc
      refine List.nodup_cons.mpr ⟨fun hx => ?_, ih (by omega)⟩
      obtain ⟨i, h1, h2, h3⟩ := sk_al_mem f m _ hx
      have h4 := sk_r_inj hc h2 h3
      have h5 : nI (m + 1) = nI i := (Int32.add_right_inj f).mp h4
      have h6 := (nI_eq (show m + 1 < 2 ^ 31 by omega) (show i < 2 ^ 31 by omega)).mp h5
      omega
    · exact ih (by omega)
theorem sk_pigeon : ∀ (N : Nat) (l : List Nat), l.Nodup → (∀ x ∈ l, x < N) → l.length ≤ N := by
  intro N
  induction N with
  | zero =>
    intro l _ h
    cases l with
    | nil => exact Nat.le_refl _
    | cons a l => exact absurd (h a List.mem_cons_self) (Nat.not_lt_zero a)
  | succ N ih =>
    intro l hn h
    have h1 := ih (l.erase N) (hn.erase N) (fun x hx => by
      have h2 := hn.mem_erase_iff.mp hx
      have h3 := h x h2.2
      have h4 := h2.1
      omega)
    rw [List.length_erase] at h1
    split at h1 <;> omega
theorem sk_ab_le (f : Int32) {m : Nat} (hm : m ≤ 8192) : sk_ab f m ≤ 4096 := by
  rw [← sk_al_len]
  refine sk_pigeon 4096 _ (sk_al_nd f m hm) (fun x hx => ?_)
  obtain ⟨i, -, -, e⟩ := sk_al_mem f m x hx
  rw [e]
  exact sk_r_lt _
theorem sk_ab_m (f : Int32) : ∀ m, sk_ab f m ≤ m := by
  intro m
  induction m with
  | zero => exact Nat.le_refl _
  | succ m ih =>
    unfold sk_ab
    split <;> omega
end
section
/-! THE JDK's METHODS: Number(), Integer(int), Integer.hashCode (both), Integer.valueOf, Integer.numberOfLeadingZeros(255) -/
abbrev sk_no : Nat → Prop := fun _ => False
abbrev skCl : List vw_C := [(RX1, TX1, 1), (RX2, TX2, 4), (RJ6, TJ6, 1)]
/-- a call that writes nothing leaves every world as it was -/
theorem sk_kept {D : va_G} {cl : List vw_C} {ws : va_W} {H H1 : Heap} {A : Nat → Prop} (hP : va_P D cl ws H) (hk : ∀ q : Nat, q < H.size → ¬ A q → H1[q]? = H[q]?) (hA : ∀ q : Nat, q < H.size → ¬ A q := by exact fun q _ z => z) : va_P D cl ws H1 := hP.kept fun k x hx => hk _ (hP k x hx).lt (hA _ (hP k x hx).lt)
theorem sk_D1 {a : Nat} {e : va_E} : va_D (fun q => q = a) [(a, e)] := by
  refine ⟨fun i j p q hi hj _ => ?_, fun k q hk => ?_⟩
  · have h1 := (List.getElem?_eq_some_iff.mp hi).1
    have h2 := (List.getElem?_eq_some_iff.mp hj).1
    simp only [List.length_cons, List.length_nil] at h1 h2
    omega
  · have h1 := (List.getElem?_eq_some_iff.mp hk).1
    simp only [List.length_cons, List.length_nil] at h1
    have h2 : k = 0 := by omega
    subst h2
    cases hk
    rfl
/-- y is an Integer that holds v -/
def sk_bx (y : Nat) (v : Int32) (U : State) (H : Heap) : Prop := va_O "java/lang/Integer" y sk_no U H ∧ va_OF "java/lang/Integer" "value" "I" (.int v) y sk_no U H
theorem sk_bx.moved {y : Nat} {v : Int32} {u U : State} {H : Heap} (hvm : u.vm.Alike U.vm) (h : sk_bx y v u H) : sk_bx y v U H := ⟨va_O.moved hvm h.1, va_OF.moved hvm h.2⟩
theorem sk_bx.kept {y : Nat} {v : Int32} {U : State} {H H1 : Heap} (h : sk_bx y v U H) (hq : ∀ a : Nat, a < H.size → H1[a]? = H[a]?) : sk_bx y v U H1 := ⟨h.1.kept fun a ha _ => hq a ha, h.2.kept fun a ha _ => hq a ha⟩
theorem sk_bx_new {args : Array Value} {s : State} {D : va_G} {tys : List (ClassId × FieldType)} {ws : va_W} {H : Heap} {k q : Nat} {v : Int32} (hts : ∀ w ∈ lw_all, w.before args s = true) (hK : va_K D skCl tys s) (hP : va_P D skCl ws H) (he : ws[k]? = some (q, .inr (2, [.int v]))) : sk_bx q v s H := by
  obtain ⟨r, h1, cell, q1, q2, q3, q4⟩ := hP k _ he
  have hr : r = (RJ6, TJ6, 1) := Option.some.inj (h1.symm.trans rfl)
  subst hr
  obtain ⟨hS, hfc, kC, hkC, hkind⟩ := hK.1 2 (RJ6, TJ6, 1) rfl
  obtain ⟨cf, kf, fi, f, hi, hsl⟩ := hS 0 (by decide)
  refine ⟨⟨cell, q1, by rw [q3]; rfl, by rw [q2]; exact hfc, fun h => h⟩, ⟨cf, kf, fi, f, cell, hi, (u_facts hfc hkC (u_lays hts in_J6 (show 0 < 1 by decide)) hi).1, q1, (by rw [q3]; exact fun h => by cases h), ?_, fun h => h⟩⟩
  rw [hsl, q4 0 (by decide)]
  simp [vp_V]
theorem sk_bx_old {ad : Nat → Nat} {A : Nat → Prop} {s : State} {H : Heap} (h : vb_C ad A s H) {k : Nat} (hk : k < 256) : sk_bx (ad k) (vb_c k) s H := ⟨(h.1 k hk).narrow fun _ z => z.elim, (h.2 k hk).narrow fun _ z => z.elim⟩
theorem sk_bx_get {y : Nat} {v : Int32} {U : State} {H : Heap} (h : sk_bx y v U H) : va_Ef 1 "java/lang/Integer" "value" "I" (fun _ => .int v) (fun _ => y) sk_no U H := fun _ _ => h.2
theorem sk_bx_recv {y : Nat} {v : Int32} {U : State} {H : Heap} (h : sk_bx y v U H) : ∃ cell : Cell, H[y]? = some cell ∧ cell.vm.isStatics = false ∧ U.vm.findClass "java/lang/Integer" = some cell.cls := by
  obtain ⟨cell, h1, h2, h3, -⟩ := h.1
  exact ⟨cell, h1, h2, h3⟩
/-- Integer's cache: what the Statement says of it -/
def sk_E (tc : Nat) (ad : Nat → Nat) (A : Nat → Prop) (U : State) (H : Heap) : Prop := va_Z "java/lang/Integer$IntegerCache" "high" "I" (.int 127) A U H ∧ va_Z "java/lang/Integer$IntegerCache" "cache" "[Ljava/lang/Integer;" (.ref tc) A U H ∧ va_T (.object "java/lang/Integer") tc 256 (fun j => .ref (ad j)) A U H ∧ vb_C ad A U H
theorem sk_E.moved {tc : Nat} {ad : Nat → Nat} {A : Nat → Prop} {u U : State} {H : Heap} (hvm : u.vm.Alike U.vm) (h : sk_E tc ad A u H) : sk_E tc ad A U H := ⟨va_Z.moved hvm h.1, va_Z.moved hvm h.2.1, va_T.moved hvm h.2.2.1, vb_C.moved hvm h.2.2.2⟩
theorem sk_E.kept {tc : Nat} {ad : Nat → Nat} {A : Nat → Prop} {U : State} {H H1 : Heap} (h : sk_E tc ad A U H) (hq : ∀ a : Nat, a < H.size → ¬ A a → H1[a]? = H[a]?) : sk_E tc ad A U H1 := ⟨h.1.kept hq, h.2.1.kept hq, h.2.2.1.kept hq, h.2.2.2.kept hq⟩
theorem sk_E.narrow {tc : Nat} {ad : Nat → Nat} {A B : Nat → Prop} {U : State} {H : Heap} (h : sk_E tc ad A U H) (hAB : ∀ q, B q → A q) : sk_E tc ad B U H := ⟨h.1.narrow hAB, h.2.1.narrow hAB, h.2.2.1.narrow hAB, h.2.2.2.narrow hAB⟩
set_option maxHeartbeats 4000000 in
set_option maxRecDepth 100000 in
/-- Number(): nothing -/
theorem sk_c_Number (l : Launch) (h : Nat) : Met l yJ5_init (ws_ yJ5_init cJ5_init 1 none) ({ frames := 1, cells := 0, slots := 0, locals := 12 }) (va_Pc [.ref h] (fun _ => True)) (va_Qv (fun _ : Unit => True) (fun _ _ => True) sk_no) 0 0 sk_no := by
  refine Met.ofW (cc := cJ5_init) (maxL := 1) (ret := none) (by decide) rfl ?_
  intro p e s m args below meth c s₁ B hml hv
  obtain ⟨rfl, -⟩ := hv
  have hx := B.exec
  have hb := B.bytes
  have hr := B.returns
  have hts := atoms_spec (ws := (ws_ yJ5_init cJ5_init 1 none)) B.pre
  have hts : ∀ w ∈ lw_all, w.before _ s = true := fun w h => hts w (List.mem_cons_of_mem _ h)
  have hown : s.vm.findClass RJ5 = some m.cls := findClass_of_methodNamed B.named
  have hlocks := B.notSynchronized
  have hS : va_S sk_no s.heap s.heap [] := va_S.rf
  have hl := lv_entry ([.ref h]) (n := 1) (Nat.le_of_ble_eq_true rfl)
  rw [lg_entry_eq]
  generalize (lg_sl ([.ref h]) ++ List.replicate (1 - (lg_sl ([.ref h])).length) Slot.unset).toArray = ls at hl ⊢
  have hl : lv_has ls 1 [(0, .ref h)] := hl
  refine lv_aload_n hx hb dJ5_init_0 rfl (lv_at hl 0 rfl) ?_
  refine W.objInit hx hb hown (hts _ q154) (hts _ q20) (hts _ q21) rfl (by rw [hml]; exact hl.1) rfl dJ5_init_1 (Nat.le_of_ble_eq_true rfl) (Nat.le_of_ble_eq_true rfl) ?_
  refine W.eq (g2 := F0 m 4 ls []) rfl ?_
  exact W.vret hx hb hr (fun t ht hW => ⟨⟨(), rfl, trivial, trivial⟩, hS.F ht⟩) hS.2.2 dJ5_init_4
set_option maxHeartbeats 4000000 in
set_option maxRecDepth 100000 in
/-- Integer(v): the field -/
theorem sk_c_Integer (l : Launch) (dC : Nat → ClassId) (dI : Nat → Nat → Nat) (h : Nat) (v v0 : Int32) : Met l yJ6_init (ws_ yJ6_init cJ6_init 2 none) ({ frames := 2, cells := 0, slots := 0, locals := 32 }) (va_Pc [.ref h, .int v] (fun U => va_P (dC, dI) skCl [(h, .inr (2, [.int v0]))] U.heap ∧ va_K (dC, dI) skCl [] U)) (va_Qv (fun _ : Unit => True) (fun _ t => va_P (dC, dI) skCl [(h, .inr (2, [.int v]))] t.heap) (fun q => q = h)) 0 0 (fun q => q = h) := by
  refine Met.ofW (cc := cJ6_init) (maxL := 2) (ret := none) (by decide) rfl ?_
  intro p e s m args below meth c s₁ B hml hv
  obtain ⟨rfl, hP, hK⟩ := hv
  have hx := B.exec
  have hb := B.bytes
  have hr := B.returns
  have hts := atoms_spec (ws := (ws_ yJ6_init cJ6_init 2 none)) B.pre
  have hts : ∀ w ∈ lw_all, w.before _ s = true := fun w h => hts w (List.mem_cons_of_mem _ h)
  have hown : s.vm.findClass RJ6 = some m.cls := findClass_of_methodNamed B.named
  have hlocks := B.notSynchronized
  have hin : meth.name = "<init>" := (name_of_methodNamed B.named B.method).1
  have hS : va_S (fun q => q = h) s.heap s.heap [] := va_S.rf
  have hl := lv_entry ([.ref h, .int v]) (n := 2) (Nat.le_of_ble_eq_true rfl)
  rw [lg_entry_eq]
  generalize (lg_sl ([.ref h, .int v]) ++ List.replicate (2 - (lg_sl ([.ref h, .int v])).length) Slot.unset).toArray = ls at hl ⊢
  have hl : lv_has ls 2 [(0, .ref h), (1, .int v)] := hl
  have hD : va_D (fun q => q = h) [(h, .inr (2, [.int v0]))] := sk_D1
  have hP : va_P (dC, dI) skCl [(h, .inr (2, [.int v0]))] s.heap := hP
  refine lv_aload_n hx hb dJ6_init_0 rfl (lv_at hl 0 rfl) ?_
  refine va_callv (va_runI (As := []) (rest := []) ⟨hx, hb, hml, hown, hts⟩ (sk_c_Number l h) (cwI 0 hts (lw_meth q153) rfl rfl rfl (hts _ q10) (hts _ q151) (hts _ q152) rfl (by decide +kernel) ⟨Nat.le_of_ble_eq_true rfl, Nat.le_of_ble_eq_true rfl⟩) ⟨fun a U g mk q => ⟨q.1, trivial⟩, fun U hU hW => ⟨rfl, trivial⟩⟩ rfl rfl hl.1 rfl (lv_room (Nat.le_of_ble_eq_true rfl)) dJ6_init_1 ⟨Nat.zero_le _, Nat.zero_le _⟩) hS (fun q _ h => h.elim) (fun q h => h.elim) (fun _ t_ H locs ht hvm hw hB hz1 hk1 hS => ?_)
  have hP := sk_kept hP hk1
  refine lv_aload_n hx hb dJ6_init_4 rfl (lv_at hl 0 rfl) ?_
  refine lv_iload_n hx hb dJ6_init_5 rfl (lv_at hl 1 rfl) ?_
  refine va_putF (D := (dC, dI)) (ci := 2) (v := .int v) (ty := .int) (C := RJ6) (T := TJ6) (N := 1) hx hb hts in_J6 tyJ6 tyJ6_ok nmJ6 hown hK hP hD hS 0 rfl rfl 0 (by decide) (hts _ q155) (fun _ h9 => h9) rfl hin rfl (by decide +kernel) rfl rfl (Nat.le_of_ble_eq_true rfl) dJ6_init_6 (fun H locs hP hD hS => ?_)
  have hP : va_P (dC, dI) skCl [(h, .inr (2, [.int v]))] H := hP
  have hD : va_D (fun q => q = h) [(h, .inr (2, [.int v]))] := hD
  exact W.vret hx hb hr (fun t ht hW => ⟨⟨(), rfl, trivial, by (try dsimp only); rw [ht]; exact hP⟩, hS.F ht⟩) hS.2.2 dJ6_init_9
set_option maxHeartbeats 4000000 in
set_option maxRecDepth 100000 in
/-- Integer.hashCode(v) -/
theorem sk_c_hash2 (l : Launch) (v : Int32) : Met l yJ6_hashCode_2 (ws_ yJ6_hashCode_2 cJ6_hashCode_2 1 (some .int)) ({ frames := 0, cells := 0, slots := 0, locals := 0 }) (va_Pc [.int v] (fun _ => True)) (va_Qi (fun (r : Int32) (_ : Unit) => r = v) (fun _ _ => True) sk_no) 0 0 sk_no := by
  refine Met.ofW (cc := cJ6_hashCode_2) (maxL := 1) (ret := (some .int)) (by decide) rfl ?_
  intro p e s m args below meth c s₁ B hml hv
  obtain ⟨rfl, -⟩ := hv
  have hx := B.exec
  have hb := B.bytes
  have hr := B.returns
  have hts := atoms_spec (ws := (ws_ yJ6_hashCode_2 cJ6_hashCode_2 1 (some .int))) B.pre
  have hts : ∀ w ∈ lw_all, w.before _ s = true := fun w h => hts w (List.mem_cons_of_mem _ h)
  have hown : s.vm.findClass RJ6 = some m.cls := findClass_of_methodNamed B.named
  have hlocks := B.notSynchronized
  have hS : va_S sk_no s.heap s.heap [] := va_S.rf
  have hl := lv_entry ([.int v]) (n := 1) (Nat.le_of_ble_eq_true rfl)
  rw [lg_entry_eq]
  generalize (lg_sl ([.int v]) ++ List.replicate (1 - (lg_sl ([.int v])).length) Slot.unset).toArray = ls at hl ⊢
  have hl : lv_has ls 1 [(0, .int v)] := hl
  refine lv_iload_n hx hb dJ6_hashCode_2_0 rfl (lv_at hl 0 rfl) ?_
  exact W.iret (v := v) hx hb hr (fun t ht hW => ⟨⟨v, (), rfl, rfl, trivial⟩, hS.F ht⟩) hS.2.2 dJ6_hashCode_2_1
set_option maxHeartbeats 4000000 in
set_option maxRecDepth 100000 in
/-- Integer.hashCode(): its value -/
theorem sk_c_hash (l : Launch) (y : Nat) (v : Int32) : Met l yJ6_hashCode (ws_ yJ6_hashCode cJ6_hashCode 1 (some .int)) ({ frames := 1, cells := 0, slots := 0, locals := 20 }) (va_Pc [.ref y] (fun U => sk_bx y v U U.heap)) (va_Qi (fun (r : Int32) (_ : Unit) => r = v) (fun _ _ => True) sk_no) 0 0 sk_no := by
  refine Met.ofW (cc := cJ6_hashCode) (maxL := 1) (ret := (some .int)) (by decide) rfl ?_
  intro p e s m args below meth c s₁ B hml hv
  obtain ⟨rfl, hbx⟩ := hv
  have hx := B.exec
  have hb := B.bytes
  have hr := B.returns
  have hts := atoms_spec (ws := (ws_ yJ6_hashCode cJ6_hashCode 1 (some .int))) B.pre
  have hts : ∀ w ∈ lw_all, w.before _ s = true := fun w h => hts w (List.mem_cons_of_mem _ h)
  have hown : s.vm.findClass RJ6 = some m.cls := findClass_of_methodNamed B.named
  have hlocks := B.notSynchronized
  have hS : va_S sk_no s.heap s.heap [] := va_S.rf
  have hl := lv_entry ([.ref y]) (n := 1) (Nat.le_of_ble_eq_true rfl)
  rw [lg_entry_eq]
  generalize (lg_sl ([.ref y]) ++ List.replicate (1 - (lg_sl ([.ref y])).length) Slot.unset).toArray = ls at hl ⊢
  have hl : lv_has ls 1 [(0, .ref y)] := hl
  refine lv_aload_n hx hb dJ6_hashCode_0 rfl (lv_at hl 0 rfl) ?_
  refine va_getX (i := 0) (N := 1) (v := fun _ => .int v) (ad := fun _ => y) hx hb (sk_bx_get hbx) (by decide) hS hown (hts _ q155) (fun _ h9 => h9) dJ6_hashCode_1 ?_
  refine va_calli (va_runS (As := [.int v]) (rest := []) ⟨hx, hb, hml, hown, hts⟩ (sk_c_hash2 l v) (va_cwS 1 hts (lw_S q176 q177 q11 q178) rfl rfl rfl (by decide +kernel) ⟨Nat.le_of_ble_eq_true rfl, Nat.le_of_ble_eq_true rfl⟩) ⟨fun a U g mk q => ⟨q.1, trivial⟩, fun U hU hW => ⟨rfl, trivial⟩⟩ rfl rfl hl.1 rfl (lv_room (Nat.le_of_ble_eq_true rfl)) dJ6_hashCode_4 ⟨Nat.zero_le _, Nat.zero_le _⟩) hS (fun q _ h => h.elim) (fun q h => h.elim) (fun r _ t_ H locs ht hvm hw hB hz1 hk1 hS => ?_)
  exact W.iret (v := r) hx hb hr (fun t ht hW => ⟨⟨r, (), rfl, hw, trivial⟩, hS.F ht⟩) hS.2.2 dJ6_hashCode_7
set_option maxHeartbeats 4000000 in
set_option maxRecDepth 100000 in
/-- Integer.numberOfLeadingZeros(255) = 24 -/
theorem sk_c_nlz (l : Launch) : Met l yJ6_numberOfLeadingZeros (ws_ yJ6_numberOfLeadingZeros cJ6_numberOfLeadingZeros 2 (some .int)) ({ frames := 0, cells := 0, slots := 0, locals := 0 }) (va_Pc [.int 255] (fun _ => True)) (va_Qi (fun (r : Int32) (_ : Unit) => r = 24) (fun _ _ => True) sk_no) 0 0 sk_no := by
  refine Met.ofW (cc := cJ6_numberOfLeadingZeros) (maxL := 2) (ret := (some .int)) (by decide) rfl ?_
  intro p e s m args below meth c s₁ B hml hv
  obtain ⟨rfl, -⟩ := hv
  have hx := B.exec
  have hb := B.bytes
  have hr := B.returns
  have hts := atoms_spec (ws := (ws_ yJ6_numberOfLeadingZeros cJ6_numberOfLeadingZeros 2 (some .int))) B.pre
  have hts : ∀ w ∈ lw_all, w.before _ s = true := fun w h => hts w (List.mem_cons_of_mem _ h)
  have hown : s.vm.findClass RJ6 = some m.cls := findClass_of_methodNamed B.named
  have hlocks := B.notSynchronized
  have hS : va_S sk_no s.heap s.heap [] := va_S.rf
  have hl := lv_entry ([.int 255]) (n := 2) (Nat.le_of_ble_eq_true rfl)
  rw [lg_entry_eq]
  generalize (lg_sl ([.int 255]) ++ List.replicate (2 - (lg_sl ([.int 255])).length) Slot.unset).toArray = ls at hl ⊢
  have hl : lv_has ls 2 [(0, .int 255)] := hl
  refine lv_iload_n hx hb dJ6_numberOfLeadingZeros_0 rfl (lv_at hl 0 rfl) ?_
  refine lv_if_gt (tgt := 15) hx hb dJ6_numberOfLeadingZeros_1 (by decide) (fun _ => ?_) (fun z => absurd (by decide) z)
  refine lv_bipush (v := 31) hx hb dJ6_numberOfLeadingZeros_15 (by decide) ?_
  refine lv_istore_n (lv' := [(1, .int 31), (0, .int 255)]) hx hb dJ6_numberOfLeadingZeros_17 rfl hl (by decide) rfl (fun ls hl => ?_)
  refine lv_iload_n hx hb dJ6_numberOfLeadingZeros_18 rfl (lv_at hl 1 rfl) ?_
  refine lv_ldcw (v := 65536) hx hb hown (hts _ q129) dJ6_numberOfLeadingZeros_19 ?_
  refine lv_icmp_lt (tgt := 33) hx hb dJ6_numberOfLeadingZeros_22 (by decide) (fun _ => ?_) (fun z => absurd (by decide) z)
  refine lv_iload_n hx hb dJ6_numberOfLeadingZeros_33 rfl (lv_at hl 1 rfl) ?_
  refine lv_sipush (v := 256) hx hb dJ6_numberOfLeadingZeros_34 (by decide) ?_
  refine lv_icmp_lt (tgt := 48) hx hb dJ6_numberOfLeadingZeros_37 (by decide) (fun _ => ?_) (fun z => absurd (by decide) z)
  refine lv_iload_n hx hb dJ6_numberOfLeadingZeros_48 rfl (lv_at hl 1 rfl) ?_
  refine lv_bipush (v := 16) hx hb dJ6_numberOfLeadingZeros_49 (by decide) ?_
  refine lv_icmp_lt (tgt := 61) hx hb dJ6_numberOfLeadingZeros_51 (by decide) (fun z => absurd z (by decide)) (fun _ => ?_)
  refine lv_iinc (v := 27) (lv' := [(1, .int 27), (0, .int 255)]) hx hb dJ6_numberOfLeadingZeros_54 hl (k := 0) rfl (by decide) (by decide) rfl (fun ls hl => ?_)
  refine lv_iload_n hx hb dJ6_numberOfLeadingZeros_57 rfl (lv_at hl 1 rfl) ?_
  refine lv_iconst (v := 4) hx hb dJ6_numberOfLeadingZeros_58 (by decide) ?_
  refine lv_iushr (v := sk_us 255 4) hx hb dJ6_numberOfLeadingZeros_59 rfl ?_
  refine lv_topi (fun xa exa => ?_)
  obtain rfl : xa = (15 : Int32) := exa.trans (by decide +kernel)
  refine lv_istore_n (lv' := [(0, .int 15), (1, .int 27)]) hx hb dJ6_numberOfLeadingZeros_60 rfl hl (by decide) rfl (fun ls hl => ?_)
  refine lv_iload_n hx hb dJ6_numberOfLeadingZeros_61 rfl (lv_at hl 0 rfl) ?_
  refine lv_iconst (v := 4) hx hb dJ6_numberOfLeadingZeros_62 (by decide) ?_
  refine lv_icmp_lt (tgt := 73) hx hb dJ6_numberOfLeadingZeros_63 (by decide) (fun z => absurd z (by decide)) (fun _ => ?_)
  refine lv_iinc (v := 25) (lv' := [(1, .int 25), (0, .int 15)]) hx hb dJ6_numberOfLeadingZeros_66 hl (k := 1) rfl (by decide) (by decide) rfl (fun ls hl => ?_)
  refine lv_iload_n hx hb dJ6_numberOfLeadingZeros_69 rfl (lv_at hl 1 rfl) ?_
  refine lv_iconst (v := 2) hx hb dJ6_numberOfLeadingZeros_70 (by decide) ?_
  refine lv_iushr (v := sk_us 15 2) hx hb dJ6_numberOfLeadingZeros_71 rfl ?_
  refine lv_topi (fun xb exb => ?_)
  obtain rfl : xb = (3 : Int32) := exb.trans (by decide +kernel)
  refine lv_istore_n (lv' := [(0, .int 3), (1, .int 25)]) hx hb dJ6_numberOfLeadingZeros_72 rfl hl (by decide) rfl (fun ls hl => ?_)
  refine lv_iload_n hx hb dJ6_numberOfLeadingZeros_73 rfl (lv_at hl 1 rfl) ?_
  refine lv_iload_n hx hb dJ6_numberOfLeadingZeros_74 rfl (lv_at hl 0 rfl) ?_
  refine lv_iconst (v := 1) hx hb dJ6_numberOfLeadingZeros_75 (by decide) ?_
  refine lv_iushr (v := sk_us 3 1) hx hb dJ6_numberOfLeadingZeros_76 rfl ?_
  refine lv_topi (fun xc exc => ?_)
  obtain rfl : xc = (1 : Int32) := exc.trans (by decide +kernel)
  refine lv_isub hx hb dJ6_numberOfLeadingZeros_77 ?_
  refine lv_topi (fun xd exd => ?_)
  obtain rfl : xd = (24 : Int32) := exd.trans (by decide +kernel)
  exact W.iret (v := 24) hx hb hr (fun t ht hW => ⟨⟨24, (), rfl, rfl, trivial⟩, hS.F ht⟩) hS.2.2 dJ6_numberOfLeadingZeros_78
set_option maxHeartbeats 4000000 in
set_option maxRecDepth 100000 in
/-- Integer.valueOf(k): a box that holds k; at most one new cell -/
theorem sk_c_valueOf (l : Launch) (dC : Nat → ClassId) (dI : Nat → Nat → Nat) (tc : Nat) (ad : Nat → Nat) (sz : Nat) (k : Int32) : Met l yJ6_valueOf (ws_ yJ6_valueOf cJ6_valueOf 1 (some (.object "java/lang/Integer"))) ({ frames := 3, cells := 1, slots := 1, locals := 60 }) (va_Pc [.int k] (fun U => U.heap.size = sz ∧ va_K (dC, dI) skCl [] U ∧ sk_E tc ad (fun q => sz ≤ q) U U.heap)) (va_Qr (fun _ : Unit => True) (fun _ y t => sk_bx y k t t.heap) (fun q => sz ≤ q)) 1 1 (fun q => sz ≤ q) := by
  refine Met.ofW (cc := cJ6_valueOf) (maxL := 1) (ret := (some (.object "java/lang/Integer"))) (by decide) rfl ?_
  intro p e s m args below meth c s₁ B hml hv
  obtain ⟨rfl, hsz, hK, hE⟩ := hv
  have hx := B.exec
  have hb := B.bytes
  have hr := B.returns
  have hts := atoms_spec (ws := (ws_ yJ6_valueOf cJ6_valueOf 1 (some (.object "java/lang/Integer")))) B.pre
  have hts : ∀ w ∈ lw_all, w.before _ s = true := fun w h => hts w (List.mem_cons_of_mem _ h)
  have hown : s.vm.findClass RJ6 = some m.cls := findClass_of_methodNamed B.named
  have hlocks := B.notSynchronized
  have hS : va_S (fun q => sz ≤ q) s.heap s.heap [] := va_S.rf
  have hl := lv_entry ([.int k]) (n := 1) (Nat.le_of_ble_eq_true rfl)
  rw [lg_entry_eq]
  generalize (lg_sl ([.int k]) ++ List.replicate (1 - (lg_sl ([.int k])).length) Slot.unset).toArray = ls at hl ⊢
  have hl : lv_has ls 1 [(0, .int k)] := hl
  have hA : ∀ q : Nat, s.heap.size ≤ q → sz ≤ q := fun q h => by rw [← hsz]; exact h
  have hEc := hE
  obtain ⟨hZ1, hZ2, hTc, hBc⟩ := hE
  have hnew : ∀ ls : Array Slot, lv_has ls 1 [(0, .int k)] → W p l e (headSpec (ws_ yJ6_valueOf cJ6_valueOf 1 (some (.object "java/lang/Integer"))) ({ frames := 3, cells := 1, slots := 1, locals := 60 })).room s m ([.int k] : List Value).toArray below meth c s.heap [] 0 0 (MQ below (va_Qr (fun _ : Unit => True) (fun _ y t => sk_bx y k t t.heap) (fun q => sz ≤ q)) ([.int k] : List Value).toArray s 1 1 (fun q => sz ≤ q)) (F0 m 23 ls []) := by
    intro ls hl
    have hP : va_P (dC, dI) skCl [] s.heap := fun k q h => by simp at h
    have hD : va_D (fun q => sz ≤ q) [] := ⟨fun i j p q h => by simp at h, fun k q h => by simp at h⟩
    refine va_new (ci := 2) (fs := [.int 0]) (C := RJ6) (T := TJ6) (N := 1) hx hb hts in_J6 tyJ6 tyJ6_ok hown (hts _ q146) (hts _ q147) (hts _ q11) hK hP hD hS hA rfl (fun j hj => by rcases (show j = 0 by omega) with rfl <;> rfl) (Nat.le_of_ble_eq_true rfl) (Nat.le_of_ble_eq_true rfl) dJ6_valueOf_23 (fun y H hP hD hS => ?_)
    have hP : va_P (dC, dI) skCl [(y, .inr (2, [.int 0]))] H := hP
    have hD : va_D (fun q => sz ≤ q) [(y, .inr (2, [.int 0]))] := hD
    refine W.cs (cells' := 1) (slots' := 1) rfl rfl ?_
    refine lv_dup hx hb dJ6_valueOf_26 rfl ?_
    refine lv_iload_n hx hb dJ6_valueOf_27 rfl (lv_at hl 0 rfl) ?_
    have hy : sz ≤ y := hD.2 0 _ rfl
    refine va_callv (va_runI (As := [.int k]) (rest := [.ref y]) ⟨hx, hb, hml, hown, hts⟩ (sk_c_Integer l dC dI y k 0) (cwI 1 hts (lw_meth q150) rfl rfl rfl (hts _ q11) (hts _ q148) (hts _ q149) rfl (by decide +kernel) ⟨Nat.le_of_ble_eq_true rfl, Nat.le_of_ble_eq_true rfl⟩) ⟨fun a U g mk q => ⟨q.1, q.2.1, va_K.moved (u := U) (U := U.calling g mk a) (Vm.Alike.refl U.vm) q.2.2⟩, fun U hU hW => ⟨rfl, by (try dsimp only); rw [hU]; exact hP, va_K.moved hW.alike hK⟩⟩ rfl rfl hl.1 rfl (lv_room (Nat.le_of_ble_eq_true rfl)) dJ6_valueOf_28 ⟨Nat.le_of_ble_eq_true rfl, Nat.le_of_ble_eq_true rfl⟩) hS (fun q _ h => by rw [h]; exact hy) (fun q h => by rw [h]; exact hy) (fun _ t H locs ht hvm hw hB hz1 hk1 hS => ?_)
    rw [ht] at hB
    have hbx := sk_bx_new (k := 0) hts hK hB rfl
    refine W.cs (cells' := 1) (slots' := 1) rfl rfl ?_
    exact W.aret (v := .ref y) hx hb hr (Or.inl ⟨_, rfl⟩) (Or.inr ⟨_, rfl⟩) (fun t ht hW => ⟨⟨(), y, rfl, trivial, by (try dsimp only); rw [ht]; exact hbx.moved hW.alike⟩, hS.F ht⟩) hS.2.2 dJ6_valueOf_31
  refine lv_iload_n hx hb dJ6_valueOf_0 rfl (lv_at hl 0 rfl) ?_
  refine lv_bipush (v := (-128)) hx hb dJ6_valueOf_1 (by decide) ?_
  refine lv_icmp_lt (tgt := 23) hx hb dJ6_valueOf_3 (by decide) (fun _ => hnew ls hl) (fun hlo => ?_)
  refine lv_iload_n hx hb dJ6_valueOf_6 rfl (lv_at hl 0 rfl) ?_
  refine va_gets (v := .int 127) hx hb hZ1 hS hown (hts _ q142) (fun _ h9 => h9) dJ6_valueOf_7 ?_
  refine lv_icmp_gt (tgt := 23) hx hb dJ6_valueOf_10 (by decide) (fun _ => hnew ls hl) (fun hhi => ?_)
  obtain ⟨j, hj, ej, ek⟩ := bx_small hlo hhi
  refine va_gets (v := .ref tc) hx hb hZ2 hS hown (hts _ q144) (fun _ h9 => h9) dJ6_valueOf_13 ?_
  refine lv_iload_n hx hb dJ6_valueOf_16 rfl (lv_at hl 0 rfl) ?_
  refine lv_sipush (v := 128) hx hb dJ6_valueOf_17 (by decide) ?_
  refine lv_iadd hx hb dJ6_valueOf_20 ?_
  rw [ej]
  refine vb_tq (v := .ref (ad j)) hx hb hTc hS (vp_in_nI hj (by decide)) (by rw [nI_clamp (by omega)]) dJ6_valueOf_21 ?_
  have hbx := sk_bx_old hBc hj
  rw [← ek] at hbx
  refine W.widen (k := 1) (n := 1) (by decide) (by decide) ?_
  exact W.aret (v := .ref (ad j)) hx hb hr (Or.inl ⟨_, rfl⟩) (Or.inr ⟨_, rfl⟩) (fun t ht hW => ⟨⟨(), ad j, rfl, trivial, by (try dsimp only); rw [ht]; exact hbx.moved hW.alike⟩, hS.F ht⟩) hS.2.2 dJ6_valueOf_22
end
section
/-! SMALL METHODS: Caffeine's two, FrequencySketch(), isNotInitialized, spread, rehash -/
set_option maxHeartbeats 4000000 in
set_option maxRecDepth 100000 in
/-- Caffeine.requireArgument(true): nothing -/
theorem sk_c_require (l : Launch) : Met l yX3_requireArgument (ws_ yX3_requireArgument cX3_requireArgument 1 none) ({ frames := 0, cells := 0, slots := 0, locals := 0 }) (va_Pc [.int 1] (fun _ => True)) (va_Qv (fun _ : Unit => True) (fun _ _ => True) sk_no) 0 0 sk_no := by
  refine Met.ofW (cc := cX3_requireArgument) (maxL := 1) (ret := none) (by decide) rfl ?_
  intro p e s m args below meth c s₁ B hml hv
  obtain ⟨rfl, -⟩ := hv
  have hx := B.exec
  have hb := B.bytes
  have hr := B.returns
  have hts := atoms_spec (ws := (ws_ yX3_requireArgument cX3_requireArgument 1 none)) B.pre
  have hts : ∀ w ∈ lw_all, w.before _ s = true := fun w h => hts w (List.mem_cons_of_mem _ h)
  have hown : s.vm.findClass RX3 = some m.cls := findClass_of_methodNamed B.named
  have hlocks := B.notSynchronized
  have hS : va_S sk_no s.heap s.heap [] := va_S.rf
  have hl := lv_entry ([.int 1]) (n := 1) (Nat.le_of_ble_eq_true rfl)
  rw [lg_entry_eq]
  generalize (lg_sl ([.int 1]) ++ List.replicate (1 - (lg_sl ([.int 1])).length) Slot.unset).toArray = ls at hl ⊢
  have hl : lv_has ls 1 [(0, .int 1)] := hl
  refine lv_iload_n hx hb dX3_requireArgument_0 rfl (lv_at hl 0 rfl) ?_
  refine lv_if_ne (tgt := 12) hx hb dX3_requireArgument_1 (by decide) (fun _ => ?_) (fun z => absurd z (by decide))
  exact W.vret hx hb hr (fun t ht hW => ⟨⟨(), rfl, trivial, trivial⟩, hS.F ht⟩) hS.2.2 dX3_requireArgument_12
set_option maxHeartbeats 4000000 in
set_option maxRecDepth 100000 in
/-- Caffeine.ceilingPowerOfTwo(256) = 256 -/
theorem sk_c_ceiling (l : Launch) : Met l yX3_ceilingPowerOfTwo (ws_ yX3_ceilingPowerOfTwo cX3_ceilingPowerOfTwo 1 (some .int)) ({ frames := 1, cells := 0, slots := 0, locals := 21 }) (va_Pc [.int 256] (fun _ => True)) (va_Qi (fun (r : Int32) (_ : Unit) => r = 256) (fun _ _ => True) sk_no) 0 0 sk_no := by
  refine Met.ofW (cc := cX3_ceilingPowerOfTwo) (maxL := 1) (ret := (some .int)) (by decide) rfl ?_
  intro p e s m args below meth c s₁ B hml hv
  obtain ⟨rfl, -⟩ := hv
  have hx := B.exec
  have hb := B.bytes
  have hr := B.returns
  have hts := atoms_spec (ws := (ws_ yX3_ceilingPowerOfTwo cX3_ceilingPowerOfTwo 1 (some .int))) B.pre
  have hts : ∀ w ∈ lw_all, w.before _ s = true := fun w h => hts w (List.mem_cons_of_mem _ h)
  have hown : s.vm.findClass RX3 = some m.cls := findClass_of_methodNamed B.named
  have hlocks := B.notSynchronized
  have hS : va_S sk_no s.heap s.heap [] := va_S.rf
  have hl := lv_entry ([.int 256]) (n := 1) (Nat.le_of_ble_eq_true rfl)
  rw [lg_entry_eq]
  generalize (lg_sl ([.int 256]) ++ List.replicate (1 - (lg_sl ([.int 256])).length) Slot.unset).toArray = ls at hl ⊢
  have hl : lv_has ls 1 [(0, .int 256)] := hl
  refine lv_iload_n hx hb dX3_ceilingPowerOfTwo_0 rfl (lv_at hl 0 rfl) ?_
  refine lv_ldc (v := 1073741824) hx hb hown (hts _ q125) dX3_ceilingPowerOfTwo_1 ?_
  refine lv_icmp_le (tgt := 9) hx hb dX3_ceilingPowerOfTwo_3 (by decide) (fun _ => ?_) (fun z => absurd (by decide) z)
  refine lv_iconst (v := 1) hx hb dX3_ceilingPowerOfTwo_9 (by decide) ?_
  refine lv_iload_n hx hb dX3_ceilingPowerOfTwo_10 rfl (lv_at hl 0 rfl) ?_
  refine lv_iconst (v := 1) hx hb dX3_ceilingPowerOfTwo_11 (by decide) ?_
  refine lv_isub hx hb dX3_ceilingPowerOfTwo_12 ?_
  refine lv_topi (fun xa exa => ?_)
  obtain rfl : xa = (255 : Int32) := exa.trans (by decide +kernel)
  refine va_calli (va_runS (As := [.int 255]) (rest := [.int 1]) ⟨hx, hb, hml, hown, hts⟩ (sk_c_nlz l) (va_cwS 1 hts (lw_S q126 q127 q11 q128) rfl rfl rfl (by decide +kernel) ⟨Nat.le_of_ble_eq_true rfl, Nat.le_of_ble_eq_true rfl⟩) ⟨fun a U g mk q => ⟨q.1, trivial⟩, fun U hU hW => ⟨rfl, trivial⟩⟩ rfl rfl hl.1 rfl (lv_room (Nat.le_of_ble_eq_true rfl)) dX3_ceilingPowerOfTwo_13 ⟨Nat.zero_le _, Nat.zero_le _⟩) hS (fun q _ h => h.elim) (fun q h => h.elim) (fun r _ t_ H locs ht hvm hw hB hz1 hk1 hS => ?_)
  obtain rfl : r = (24 : Int32) := hw
  refine lv_ineg hx hb dX3_ceilingPowerOfTwo_16 ?_
  refine lv_ishl hx hb dX3_ceilingPowerOfTwo_17 ?_
  refine lv_topi (fun xb exb => ?_)
  obtain rfl : xb = (256 : Int32) := exb.trans (by decide +kernel)
  exact W.iret (v := 256) hx hb hr (fun t ht hW => ⟨⟨256, (), rfl, rfl, trivial⟩, hS.F ht⟩) hS.2.2 dX3_ceilingPowerOfTwo_18
set_option maxHeartbeats 4000000 in
set_option maxRecDepth 100000 in
/-- FrequencySketch(): nothing -/
theorem sk_c_fsInit (l : Launch) (h : Nat) : Met l yX2_init (ws_ yX2_init cX2_init 1 none) ({ frames := 1, cells := 0, slots := 0, locals := 12 }) (va_Pc [.ref h] (fun _ => True)) (va_Qv (fun _ : Unit => True) (fun _ _ => True) sk_no) 0 0 sk_no := by
  refine Met.ofW (cc := cX2_init) (maxL := 1) (ret := none) (by decide) rfl ?_
  intro p e s m args below meth c s₁ B hml hv
  obtain ⟨rfl, -⟩ := hv
  have hx := B.exec
  have hb := B.bytes
  have hr := B.returns
  have hts := atoms_spec (ws := (ws_ yX2_init cX2_init 1 none)) B.pre
  have hts : ∀ w ∈ lw_all, w.before _ s = true := fun w h => hts w (List.mem_cons_of_mem _ h)
  have hown : s.vm.findClass RX2 = some m.cls := findClass_of_methodNamed B.named
  have hlocks := B.notSynchronized
  have hS : va_S sk_no s.heap s.heap [] := va_S.rf
  have hl := lv_entry ([.ref h]) (n := 1) (Nat.le_of_ble_eq_true rfl)
  rw [lg_entry_eq]
  generalize (lg_sl ([.ref h]) ++ List.replicate (1 - (lg_sl ([.ref h])).length) Slot.unset).toArray = ls at hl ⊢
  have hl : lv_has ls 1 [(0, .ref h)] := hl
  refine lv_aload_n hx hb dX2_init_0 rfl (lv_at hl 0 rfl) ?_
  refine W.objInit hx hb hown (hts _ q27) (hts _ q20) (hts _ q21) rfl (by rw [hml]; exact hl.1) rfl dX2_init_1 (Nat.le_of_ble_eq_true rfl) (Nat.le_of_ble_eq_true rfl) ?_
  refine W.eq (g2 := F0 m 4 ls []) rfl ?_
  exact W.vret hx hb hr (fun t ht hW => ⟨⟨(), rfl, trivial, trivial⟩, hS.F ht⟩) hS.2.2 dX2_init_4
set_option maxHeartbeats 4000000 in
set_option maxRecDepth 100000 in
/-- isNotInitialized(): false, with a table -/
theorem sk_c_isNot (l : Launch) (dC : Nat → ClassId) (dI : Nat → Nat → Nat) (h t : Nat) (n0 n1 n : Int32) : Met l yX2_isNotInitialized (ws_ yX2_isNotInitialized cX2_isNotInitialized 1 (some .boolean)) ({ frames := 0, cells := 0, slots := 0, locals := 0 }) (va_Pc [.ref h] (fun U => va_P (dC, dI) skCl [(h, .inr (1, [.int n0, .int n1, .ref t, .int n]))] U.heap ∧ va_K (dC, dI) skCl [] U)) (va_Qi (fun (r : Int32) (_ : Unit) => r = 0) (fun _ _ => True) sk_no) 0 0 sk_no := by
  refine Met.ofW (cc := cX2_isNotInitialized) (maxL := 1) (ret := (some .boolean)) (by decide) rfl ?_
  intro p e s m args below meth c s₁ B hml hv
  obtain ⟨rfl, hP, hK⟩ := hv
  have hx := B.exec
  have hb := B.bytes
  have hr := B.returns
  have hts := atoms_spec (ws := (ws_ yX2_isNotInitialized cX2_isNotInitialized 1 (some .boolean))) B.pre
  have hts : ∀ w ∈ lw_all, w.before _ s = true := fun w h => hts w (List.mem_cons_of_mem _ h)
  have hown : s.vm.findClass RX2 = some m.cls := findClass_of_methodNamed B.named
  have hlocks := B.notSynchronized
  have hS : va_S sk_no s.heap s.heap [] := va_S.rf
  have hl := lv_entry ([.ref h]) (n := 1) (Nat.le_of_ble_eq_true rfl)
  rw [lg_entry_eq]
  generalize (lg_sl ([.ref h]) ++ List.replicate (1 - (lg_sl ([.ref h])).length) Slot.unset).toArray = ls at hl ⊢
  have hl : lv_has ls 1 [(0, .ref h)] := hl
  refine lv_aload_n hx hb dX2_isNotInitialized_0 rfl (lv_at hl 0 rfl) ?_
  refine va_get (D := (dC, dI)) (ci := 1) (v := .ref t) (C := RX2) (T := TX2) (N := 4) hx hb hts in_X2 hown hK hP 0 rfl rfl 2 (by decide) (hts _ q30) (fun _ h9 => h9) rfl dX2_isNotInitialized_1 ?_
  refine lv_ifnonnull (tgt := 11) hx hb dX2_isNotInitialized_4 (by decide) ?_
  refine lv_iconst (v := 0) hx hb dX2_isNotInitialized_11 (by decide) ?_
  exact W.zret (v := 0) hx hb hr rfl (fun t ht hW => ⟨⟨0, (), rfl, rfl, trivial⟩, hS.F ht⟩) hS.2.2 dX2_isNotInitialized_12
set_option maxHeartbeats 4000000 in
set_option maxRecDepth 100000 in
/-- spread(k) -/
theorem sk_c_spread (l : Launch) (k : Int32) : Met l yX2_spread (ws_ yX2_spread cX2_spread 1 (some .int)) ({ frames := 0, cells := 0, slots := 0, locals := 0 }) (va_Pc [.int k] (fun _ => True)) (va_Qi (fun (r : Int32) (_ : Unit) => r = sk_sp k) (fun _ _ => True) sk_no) 0 0 sk_no := by
  refine Met.ofW (cc := cX2_spread) (maxL := 1) (ret := (some .int)) (by decide) rfl ?_
  intro p e s m args below meth c s₁ B hml hv
  obtain ⟨rfl, -⟩ := hv
  have hx := B.exec
  have hb := B.bytes
  have hr := B.returns
  have hts := atoms_spec (ws := (ws_ yX2_spread cX2_spread 1 (some .int))) B.pre
  have hts : ∀ w ∈ lw_all, w.before _ s = true := fun w h => hts w (List.mem_cons_of_mem _ h)
  have hown : s.vm.findClass RX2 = some m.cls := findClass_of_methodNamed B.named
  have hlocks := B.notSynchronized
  have hS : va_S sk_no s.heap s.heap [] := va_S.rf
  have hl := lv_entry ([.int k]) (n := 1) (Nat.le_of_ble_eq_true rfl)
  rw [lg_entry_eq]
  generalize (lg_sl ([.int k]) ++ List.replicate (1 - (lg_sl ([.int k])).length) Slot.unset).toArray = ls at hl ⊢
  have hl : lv_has ls 1 [(0, .int k)] := hl
  refine lv_iload_n hx hb dX2_spread_0 rfl (lv_at hl 0 rfl) ?_
  refine lv_iload_n hx hb dX2_spread_1 rfl (lv_at hl 0 rfl) ?_
  refine lv_bipush (v := 17) hx hb dX2_spread_2 (by decide) ?_
  refine lv_iushr (v := sk_us k 17) hx hb dX2_spread_4 rfl ?_
  refine lv_ixor hx hb dX2_spread_5 ?_
  refine lv_topi (fun x1 ex1 => ?_)
  refine lv_istore_n (lv' := [(0, .int x1)]) hx hb dX2_spread_6 rfl hl (by decide) rfl (fun ls hl => ?_)
  refine lv_iload_n hx hb dX2_spread_7 rfl (lv_at hl 0 rfl) ?_
  refine lv_ldc (v := (-312814405)) hx hb hown (hts _ q183) dX2_spread_8 ?_
  refine lv_imul hx hb dX2_spread_10 ?_
  refine lv_topi (fun x2 ex2 => ?_)
  refine lv_istore_n (lv' := [(0, .int x2)]) hx hb dX2_spread_11 rfl hl (by decide) rfl (fun ls hl => ?_)
  refine lv_iload_n hx hb dX2_spread_12 rfl (lv_at hl 0 rfl) ?_
  refine lv_iload_n hx hb dX2_spread_13 rfl (lv_at hl 0 rfl) ?_
  refine lv_bipush (v := 11) hx hb dX2_spread_14 (by decide) ?_
  refine lv_iushr (v := sk_us x2 11) hx hb dX2_spread_16 rfl ?_
  refine lv_ixor hx hb dX2_spread_17 ?_
  refine lv_topi (fun x3 ex3 => ?_)
  refine lv_istore_n (lv' := [(0, .int x3)]) hx hb dX2_spread_18 rfl hl (by decide) rfl (fun ls hl => ?_)
  refine lv_iload_n hx hb dX2_spread_19 rfl (lv_at hl 0 rfl) ?_
  refine lv_ldc (v := (-1404298415)) hx hb hown (hts _ q184) dX2_spread_20 ?_
  refine lv_imul hx hb dX2_spread_22 ?_
  refine lv_topi (fun x4 ex4 => ?_)
  refine lv_istore_n (lv' := [(0, .int x4)]) hx hb dX2_spread_23 rfl hl (by decide) rfl (fun ls hl => ?_)
  refine lv_iload_n hx hb dX2_spread_24 rfl (lv_at hl 0 rfl) ?_
  refine lv_iload_n hx hb dX2_spread_25 rfl (lv_at hl 0 rfl) ?_
  refine lv_bipush (v := 15) hx hb dX2_spread_26 (by decide) ?_
  refine lv_iushr (v := sk_us x4 15) hx hb dX2_spread_28 rfl ?_
  refine lv_ixor hx hb dX2_spread_29 ?_
  refine lv_topi (fun x5 ex5 => ?_)
  refine lv_istore_n (lv' := [(0, .int x5)]) hx hb dX2_spread_30 rfl hl (by decide) rfl (fun ls hl => ?_)
  refine lv_iload_n hx hb dX2_spread_31 rfl (lv_at hl 0 rfl) ?_
  exact W.iret (v := x5) hx hb hr (fun t ht hW => ⟨⟨x5, (), rfl, by rw [ex5, ex4, ex3, ex2, ex1]; rfl, trivial⟩, hS.F ht⟩) hS.2.2 dX2_spread_32
set_option maxHeartbeats 4000000 in
set_option maxRecDepth 100000 in
/-- rehash(k) -/
theorem sk_c_rehash (l : Launch) (k : Int32) : Met l yX2_rehash (ws_ yX2_rehash cX2_rehash 1 (some .int)) ({ frames := 0, cells := 0, slots := 0, locals := 0 }) (va_Pc [.int k] (fun _ => True)) (va_Qi (fun (r : Int32) (_ : Unit) => r = sk_rh k) (fun _ _ => True) sk_no) 0 0 sk_no := by
  refine Met.ofW (cc := cX2_rehash) (maxL := 1) (ret := (some .int)) (by decide) rfl ?_
  intro p e s m args below meth c s₁ B hml hv
  obtain ⟨rfl, -⟩ := hv
  have hx := B.exec
  have hb := B.bytes
  have hr := B.returns
  have hts := atoms_spec (ws := (ws_ yX2_rehash cX2_rehash 1 (some .int))) B.pre
  have hts : ∀ w ∈ lw_all, w.before _ s = true := fun w h => hts w (List.mem_cons_of_mem _ h)
  have hown : s.vm.findClass RX2 = some m.cls := findClass_of_methodNamed B.named
  have hlocks := B.notSynchronized
  have hS : va_S sk_no s.heap s.heap [] := va_S.rf
  have hl := lv_entry ([.int k]) (n := 1) (Nat.le_of_ble_eq_true rfl)
  rw [lg_entry_eq]
  generalize (lg_sl ([.int k]) ++ List.replicate (1 - (lg_sl ([.int k])).length) Slot.unset).toArray = ls at hl ⊢
  have hl : lv_has ls 1 [(0, .int k)] := hl
  refine lv_iload_n hx hb dX2_rehash_0 rfl (lv_at hl 0 rfl) ?_
  refine lv_ldc (v := 830770091) hx hb hown (hts _ q188) dX2_rehash_1 ?_
  refine lv_imul hx hb dX2_rehash_3 ?_
  refine lv_topi (fun x1 ex1 => ?_)
  refine lv_istore_n (lv' := [(0, .int x1)]) hx hb dX2_rehash_4 rfl hl (by decide) rfl (fun ls hl => ?_)
  refine lv_iload_n hx hb dX2_rehash_5 rfl (lv_at hl 0 rfl) ?_
  refine lv_iload_n hx hb dX2_rehash_6 rfl (lv_at hl 0 rfl) ?_
  refine lv_bipush (v := 14) hx hb dX2_rehash_7 (by decide) ?_
  refine lv_iushr (v := sk_us x1 14) hx hb dX2_rehash_9 rfl ?_
  refine lv_ixor hx hb dX2_rehash_10 ?_
  refine lv_topi (fun x2 ex2 => ?_)
  refine lv_istore_n (lv' := [(0, .int x2)]) hx hb dX2_rehash_11 rfl hl (by decide) rfl (fun ls hl => ?_)
  refine lv_iload_n hx hb dX2_rehash_12 rfl (lv_at hl 0 rfl) ?_
  exact W.iret (v := x2) hx hb hr (fun t ht hW => ⟨⟨x2, (), rfl, by rw [ex2, ex1]; rfl, trivial⟩, hS.F ht⟩) hS.2.2 dX2_rehash_13
end
section
/-! THE SKETCH: incrementAt, frequency, increment, ensureCapacity(64) -/
theorem sk_declN {args : Array Value} {s : State} {y : MethodName} (hi : (Cond.instanceMethod y).before args s = true) (hn : (Cond.native y).before args s = true) : va_Decl s y := by
  obtain ⟨r0, r, h1, h2, h3, -⟩ := Cond.instanceMethod_spec hi
  obtain ⟨r0', r', h1', h2', -, -, -, h6⟩ := Cond.native_spec hn
  cases h1.symm.trans h1'
  cases h2.symm.trans h2'
  exact ⟨r0, r, h1, h2, h3, h6⟩
theorem sk_O {own : String} {idx : Nat} {C owner : String} {y0 y : MethodName} {b : ByteArray} {L : Nat} {r : Option FieldType} (h1 : Cond.methodLink own idx y0 ∈ lw_all) (h2 : Cond.sameMethod y0.cls owner y0.name y0.desc ∈ lw_all) (h3 : Cond.instanceMethod ⟨owner, y0.name, y0.desc⟩ ∈ lw_all) (h4 : Cond.selects C y0 y ∈ lw_all) (h5 : Cond.instanceMethod y ∈ lw_all) (h6 : Cond.initialized y.cls ∈ lw_all) (h7 : Cond.code y b L r ∈ lw_all) : GoodIn lw_all (va_wsO own idx C owner y0 y (ws_ y b L r)) := by
  refine lw_app ?_ (lw_meth h7)
  intro w hw
  simp only [List.mem_cons, List.not_mem_nil, or_false] at hw
  rcases hw with e | e | e | e | e | e
  · rw [e]; exact h1
  · rw [e]; exact h2
  · rw [e]; exact h3
  · rw [e]; exact h4
  · rw [e]; exact h5
  · rw [e]; exact h6
/-- an overriding method, where what the reference names is native -/
theorem sk_cwN {R : Room} {s : State} {args : Array Value} {own C owner : String} {index maxL mc ms : Nat} {y0 y : MethodName} {bytes : ByteArray} {ret : Option FieldType} {Ts ws ws' : List Cond} {rm : Room} (n : Nat) (ht : ∀ w ∈ Ts, w.before args s = true) (hT : GoodIn Ts (va_wsO own index C owner y0 y ws)) (hw : ws = Cond.code y bytes maxL ret :: ws') (hrc : rm.cells = mc) (hrs : rm.slots = ms)
    (h0 : Cond.native ⟨owner, y0.name, y0.desc⟩ ∈ Ts) (hd : owner ≠ "java/lang/invoke/MethodHandle" ∧ owner ≠ "java/lang/invoke/VarHandle" ∧ (parseMethodDescriptor y0.desc).map (fun d => d.parameters.length) = some n) (hR : rm.frames + 1 ≤ R.frames ∧ 8 + (maxL + 11) + rm.locals ≤ R.locals) : va_CU R s args own C owner index y0 y bytes maxL ret ws rm mc ms n := by
  have ok : ∀ w ∈ va_wsO own index C owner y0 y ws, w.before args s = true := fun w h => ht w (hT w h).1
  have hG : GoodIn Ts ws := fun w h => hT w (by unfold va_wsO; exact List.mem_append_right _ h)
  have hc : Cond.code y bytes maxL ret ∈ ws := by rw [hw]; exact List.mem_cons_self
  refine ⟨⟨hrc, hrs, hR.1, hR.2, pay_in ht hG, hc⟩, ht _ (hG _ hc).1, ok _ (by simp [va_wsO]), ⟨hd.1, hd.2.1⟩, fun sig h => ?_, ok _ (by simp [va_wsO]), ok _ (by simp [va_wsO]), sk_declN (ok _ (by simp [va_wsO])) (ht _ h0), ok _ (by simp [va_wsO]), ok _ (by simp [va_wsO])⟩
  have h2 := hd.2.2
  rw [h] at h2
  exact (Option.some.inj h2).symm
theorem sk_cmp0 (a b : Int64) : lg_cmp a b = 0 ↔ a = b := by
  unfold lg_cmp
  constructor
  · intro h
    split at h
    · exact absurd h (by decide)
    · split at h
      · assumption
      · exact absurd h (by decide)
  · intro h
    subst h
    rw [if_neg (show ¬ a > a from Int64.lt_irrefl), if_pos rfl]
theorem sk_P2 {D : va_G} {cl : List vw_C} {H H1 : Heap} {h t : Nat} {e1 e2 e3 : va_E} (hP : va_P D cl [(h, e1), (t, e2)] H) (hne : h ≠ t) (hk : ∀ q : Nat, q < H.size → ¬ q = t → H1[q]? = H[q]?) (hB : va_P D cl [(t, e3)] H1) : va_P D cl [(h, e1), (t, e3)] H1 := by
  have h0 : va_P D cl [(h, e1)] H := hP.sub [0] rfl
  have h9 : va_P D cl [(h, e1)] H1 := by
    refine h0.kept fun k q hq => ?_
    have h1 := (List.getElem?_eq_some_iff.mp hq).1
    simp only [List.length_cons, List.length_nil] at h1
    have h2 : k = 0 := by omega
    subst h2
    cases hq
    exact hk h (hP 0 _ rfl).lt hne
  exact h9.app hB
theorem sk_D2 {h t : Nat} {e1 e2 : va_E} (hne : h ≠ t) : va_D (fun q => q = h ∨ q = t) [(h, e1), (t, e2)] := by
  have key : ∀ (k : Nat) (q : Nat × va_E), ([(h, e1), (t, e2)] : va_W)[k]? = some q → (k = 0 ∧ q.1 = h) ∨ (k = 1 ∧ q.1 = t) := by
    intro k q hq
    match k, hq with
    | 0, hq => cases hq; exact Or.inl ⟨rfl, rfl⟩
    | 1, hq => cases hq; exact Or.inr ⟨rfl, rfl⟩
    | k + 2, hq => simp at hq
  refine ⟨fun i j p q hi hj hpq => ?_, fun k q hq => ?_⟩
  · rcases key i p hi with ⟨a, b⟩ | ⟨a, b⟩ <;> rcases key j q hj with ⟨c, d⟩ | ⟨c, d⟩
    · rw [a, c]
    · exact absurd (b.symm.trans (hpq.trans d)) hne
    · exact absurd (d.symm.trans (hpq.symm.trans b)) hne
    · rw [a, c]
  · rcases key k q hq with ⟨-, b⟩ | ⟨-, b⟩
    · exact Or.inl b
    · exact Or.inr b
set_option maxHeartbeats 4000000 in
set_option maxRecDepth 100000 in
/-- incrementAt(s, j): the counter (s, j) is raised, up to 15 -/
theorem sk_c_incAt (l : Launch) (dC : Nat → ClassId) (dI : Nat → Nat → Nat) (h t : Nat) (cL : ClassId) (a : Nat → Int64) (g : sk_G) (n : Int32) (s0 j0 : Nat) (hg : sk_Rep a g) (hs : s0 < 256) (hj : j0 < 16) : Met l yX2_incrementAt (ws_ yX2_incrementAt cX2_incrementAt 6 (some .boolean)) ({ frames := 0, cells := 0, slots := 0, locals := 0 }) (va_Pc [.ref h, .int (nI s0), .int (nI j0)] (fun U => va_P (dC, dI) skCl [(h, .inr (1, [.int 2560, .int 31, .ref t, .int n])), (t, .inl (cL, 256, .inr (.inl a)))] U.heap ∧ va_K (dC, dI) skCl [(cL, .long)] U)) (va_Qi (fun (_ : Int32) (a1 : Nat → Int64) => sk_Rep a1 (sk_up s0 j0 g)) (fun a1 U => va_P (dC, dI) skCl [(t, .inl (cL, 256, .inr (.inl a1)))] U.heap) (fun q => q = t)) 0 0 (fun q => q = t) := by
  refine Met.ofW (cc := cX2_incrementAt) (maxL := 6) (ret := (some .boolean)) (by decide) rfl ?_
  intro p e s m args below meth c s₁ B hml hv
  obtain ⟨rfl, hP, hK⟩ := hv
  have hx := B.exec
  have hb := B.bytes
  have hr := B.returns
  have hts := atoms_spec (ws := (ws_ yX2_incrementAt cX2_incrementAt 6 (some .boolean))) B.pre
  have hts : ∀ w ∈ lw_all, w.before _ s = true := fun w h => hts w (List.mem_cons_of_mem _ h)
  have hown : s.vm.findClass RX2 = some m.cls := findClass_of_methodNamed B.named
  have hlocks := B.notSynchronized
  have hS : va_S (fun q => q = t) s.heap s.heap [] := va_S.rf
  have hl := lv_entry ([.ref h, .int (nI s0), .int (nI j0)]) (n := 6) (Nat.le_of_ble_eq_true rfl)
  rw [lg_entry_eq]
  generalize (lg_sl ([.ref h, .int (nI s0), .int (nI j0)]) ++ List.replicate (6 - (lg_sl ([.ref h, .int (nI s0), .int (nI j0)])).length) Slot.unset).toArray = ls at hl ⊢
  have hl : lv_has ls 6 [(0, .ref h), (1, .int (nI s0)), (2, .int (nI j0))] := hl
  have hcl : (nI s0).toNatClampNeg = s0 := nI_clamp (Nat.lt_of_lt_of_le hs (by decide))
  have hin : vp_in (nI s0) 256 := vp_in_nI hs (by decide)
  refine lv_iload_n hx hb dX2_incrementAt_0 rfl (lv_at hl 2 rfl) ?_
  refine lv_iconst (v := 2) hx hb dX2_incrementAt_1 (by decide) ?_
  refine lv_ishl hx hb dX2_incrementAt_2 ?_
  refine lv_topi (fun x3 ex3 => ?_)
  obtain rfl : x3 = nI (4 * j0) := ex3.trans (sk_j4 hj)
  refine lv_istore_n (lv' := [(3, .int (nI (4 * j0))), (0, .ref h), (1, .int (nI s0)), (2, .int (nI j0))]) hx hb dX2_incrementAt_3 rfl hl (by decide) rfl (fun ls hl => ?_)
  refine lv_ldc2 (v := 15) hx hb hown (hts _ q193) dX2_incrementAt_4 ?_
  refine lv_iload_n hx hb dX2_incrementAt_7 rfl (lv_at hl 0 rfl) ?_
  refine lv_lshl (v := sk_ls 15 (nI (4 * j0))) hx hb dX2_incrementAt_8 rfl ?_
  refine lv_lstore (lv' := [(4, .long (sk_ls 15 (nI (4 * j0)))), (3, .int (nI (4 * j0))), (0, .ref h), (1, .int (nI s0)), (2, .int (nI j0))]) hx hb dX2_incrementAt_9 hl (by decide) rfl (fun ls hl => ?_)
  refine lv_aload_n hx hb dX2_incrementAt_11 rfl (lv_at hl 2 rfl) ?_
  refine va_get (D := (dC, dI)) (ci := 1) (v := .ref t) (C := RX2) (T := TX2) (N := 4) hx hb hts in_X2 hown hK hP 0 rfl rfl 2 (by decide) (hts _ q30) (fun _ h9 => h9) rfl dX2_incrementAt_12 ?_
  refine lv_iload_n hx hb dX2_incrementAt_15 rfl (lv_at hl 3 rfl) ?_
  refine va_lald hx hb hK hP 1 0 rfl rfl hin dX2_incrementAt_16 ?_
  rw [hcl]
  refine lv_lload hx hb dX2_incrementAt_17 (lv_at hl 0 rfl) ?_
  refine lv_land hx hb dX2_incrementAt_19 ?_
  refine lv_lload hx hb dX2_incrementAt_20 (lv_at hl 0 rfl) ?_
  refine W.lcmp hx hb dX2_incrementAt_22 ?_
  refine lv_if_eq (tgt := 40) hx hb dX2_incrementAt_23 (by decide) (fun hc => ?_) (fun hc => ?_)
  · have hg15 : ¬ g s0 j0 < 15 := by
      have h1 := (sk_full (a s0) hj).mp ((sk_cmp0 _ _).mp hc)
      have h2 := hg s0 j0 hj
      unfold sk_cnt at h2
      omega
    refine lv_iconst (v := 0) hx hb dX2_incrementAt_40 (by decide) ?_
    have hPt := hP.sub (ws' := [(t, .inl (cL, 256, .inr (.inl a)))]) [1] rfl
    exact W.zret (v := 0) hx hb hr rfl (fun t ht hW => ⟨⟨0, a, rfl, sk_Rep_full hg hg15, by (try dsimp only); rw [ht]; exact hPt⟩, hS.F ht⟩) hS.2.2 dX2_incrementAt_41
  · have hg15 : g s0 j0 < 15 := by
      have h1 : ¬ ((a s0).toBitVec.toNat / 2 ^ (4 * j0) % 16 = 15) := fun z => hc ((sk_cmp0 _ _).mpr ((sk_full (a s0) hj).mpr z))
      have h2 := hg s0 j0 hj
      have h3 := sk_Rep_lt hg (s := s0) hj
      unfold sk_cnt at h2
      omega
    refine lv_aload_n hx hb dX2_incrementAt_26 rfl (lv_at hl 2 rfl) ?_
    refine va_get (D := (dC, dI)) (ci := 1) (v := .ref t) (C := RX2) (T := TX2) (N := 4) hx hb hts in_X2 hown hK hP 0 rfl rfl 2 (by decide) (hts _ q30) (fun _ h9 => h9) rfl dX2_incrementAt_27 ?_
    refine lv_iload_n hx hb dX2_incrementAt_30 rfl (lv_at hl 3 rfl) ?_
    refine lv_dup2_11 hx hb dX2_incrementAt_31 rfl rfl ?_
    refine va_lald hx hb hK hP 1 0 rfl rfl hin dX2_incrementAt_32 ?_
    rw [hcl]
    refine lv_lconst (v := 1) hx hb dX2_incrementAt_33 (by decide) ?_
    refine lv_iload_n hx hb dX2_incrementAt_34 rfl (lv_at hl 1 rfl) ?_
    refine lv_lshl (v := sk_ls 1 (nI (4 * j0))) hx hb dX2_incrementAt_35 rfl ?_
    refine lv_ladd hx hb dX2_incrementAt_36 ?_
    have hPt := hP.sub (ws' := [(t, .inl (cL, 256, .inr (.inl a)))]) [1] rfl
    refine va_last hx hb hK hPt sk_D1 hS 0 0 rfl rfl hin dX2_incrementAt_37 (fun H locs hP hD hS => ?_)
    rw [hcl] at hP
    refine lv_iconst (v := 1) hx hb dX2_incrementAt_38 (by decide) ?_
    exact W.zret (v := 1) hx hb hr rfl (fun t ht hW => ⟨⟨1, _, rfl, sk_Rep_up hg hj hg15, by (try dsimp only); rw [ht]; exact hP⟩, hS.F ht⟩) hS.2.2 dX2_incrementAt_39
set_option maxHeartbeats 4000000 in
set_option maxRecDepth 100000 in
/-- frequency(e), e an Integer that holds k: the least of k's four counters; nothing is written -/
theorem sk_c_freq (l : Launch) (dC : Nat → ClassId) (dI : Nat → Nat → Nat) (h t y : Nat) (cL : ClassId) (a : Nat → Int64) (g : sk_G) (n k : Int32) (hg : sk_Rep a g) : Met l yX2_frequency (ws_ yX2_frequency cX2_frequency 12 (some .int)) ({ frames := 2, cells := 0, slots := 0, locals := 40 }) (va_Pc [.ref h, .ref y] (fun U => va_P (dC, dI) skCl [(h, .inr (1, [.int 2560, .int 31, .ref t, .int n])), (t, .inl (cL, 256, .inr (.inl a)))] U.heap ∧ va_K (dC, dI) skCl [(cL, .long)] U ∧ sk_bx y k U U.heap)) (va_Qi (fun (r : Int32) (_ : Unit) => r = nI (sk_tv g k)) (fun _ _ => True) sk_no) 0 0 sk_no := by
  refine Met.ofW (cc := cX2_frequency) (maxL := 12) (ret := (some .int)) (by decide) rfl ?_
  intro p e s m args below meth c s₁ B hml hv
  obtain ⟨rfl, hP, hK, hbx⟩ := hv
  have hx := B.exec
  have hb := B.bytes
  have hr := B.returns
  have hts := atoms_spec (ws := (ws_ yX2_frequency cX2_frequency 12 (some .int))) B.pre
  have hts : ∀ w ∈ lw_all, w.before _ s = true := fun w h => hts w (List.mem_cons_of_mem _ h)
  have hown : s.vm.findClass RX2 = some m.cls := findClass_of_methodNamed B.named
  have hlocks := B.notSynchronized
  have hS : va_S sk_no s.heap s.heap [] := va_S.rf
  have hl := lv_entry ([.ref h, .ref y]) (n := 12) (Nat.le_of_ble_eq_true rfl)
  rw [lg_entry_eq]
  generalize (lg_sl ([.ref h, .ref y]) ++ List.replicate (12 - (lg_sl ([.ref h, .ref y])).length) Slot.unset).toArray = ls at hl ⊢
  have hl : lv_has ls 12 [(0, .ref h), (1, .ref y)] := hl
  refine lv_aload_n hx hb dX2_frequency_0 rfl (lv_at hl 0 rfl) ?_
  have hPc := hP.sub (ws' := [(h, .inr (1, [.int 2560, .int 31, .ref t, .int n]))]) [0] rfl
  have hKc := hK.sub (tys' := []) [] rfl
  refine va_calli (va_runV (As := []) (rest := []) ⟨hx, hb, hml, hown, hts⟩ (sk_c_isNot l dC dI h t 2560 31 n) (cwV 0 hts (lw_V q163 q164 q165 q3 q166) rfl rfl rfl (by decide +kernel) ⟨Nat.le_of_ble_eq_true rfl, Nat.le_of_ble_eq_true rfl⟩) ⟨fun a U g mk q => ⟨q.1, q.2.1, va_K.moved (u := U) (U := U.calling g mk a) (Vm.Alike.refl U.vm) q.2.2⟩, va_recv hKc hPc (ci := 1) (q0 := 0) rfl rfl, fun U hU hW => ⟨rfl, by (try dsimp only); rw [hU]; exact hPc, va_K.moved hW.alike hKc⟩⟩ rfl rfl hl.1 rfl (lv_room (Nat.le_of_ble_eq_true rfl)) dX2_frequency_1 ⟨Nat.zero_le _, Nat.zero_le _⟩) hS (fun q _ h => h.elim) (fun q h => h.elim) (fun r _ t_ H locs ht hvm hw hB hz1 hk1 hS => ?_)
  have hP := sk_kept hP hk1
  have hbx := hbx.kept (fun q hq => hk1 q hq (fun z => z))
  refine lv_if_eq (tgt := 9) hx hb dX2_frequency_4 (by decide) (fun _ => ?_) (fun z => absurd hw z)
  refine lv_ldc (v := 2147483647) hx hb hown (hts _ q214) dX2_frequency_9 ?_
  refine lv_istore_n (lv' := [(2, .int 2147483647), (0, .ref h), (1, .ref y)]) hx hb dX2_frequency_11 rfl hl (by decide) rfl (fun ls hl => ?_)
  refine lv_aload_n hx hb dX2_frequency_12 rfl (lv_at hl 2 rfl) ?_
  refine va_calli (va_runU (As := []) (rest := []) ⟨hx, hb, hml, hown, hts⟩ (sk_c_hash l y k) (sk_cwN 0 hts (sk_O (C := "java/lang/Integer") (owner := "java/lang/Object") (y0 := ⟨"java/lang/Object", "hashCode", "()I"⟩) (y := yJ6_hashCode) q167 q169 q168 q173 q174 q11 q175) rfl rfl rfl q179 (by decide +kernel) ⟨Nat.le_of_ble_eq_true rfl, Nat.le_of_ble_eq_true rfl⟩) ⟨fun a U g mk q => ⟨q.1, q.2.moved (u := U) (U := U.calling g mk a) (Vm.Alike.refl U.vm)⟩, sk_bx_recv hbx, fun U hU hW => ⟨rfl, by (try dsimp only); rw [hU]; exact hbx.moved hW.alike⟩⟩ rfl rfl hl.1 rfl (lv_room (Nat.le_of_ble_eq_true rfl)) dX2_frequency_13 ⟨Nat.zero_le _, Nat.zero_le _⟩) hS (fun q _ h => h.elim) (fun q h => h.elim) (fun rk _ t_ H locs ht hvm hw hB hz1 hk1 hS => ?_)
  have hP := sk_kept hP hk1
  obtain rfl : k = rk := hw.symm
  refine va_calli (va_runS (As := [.int k]) (rest := []) ⟨hx, hb, hml, hown, hts⟩ (sk_c_spread l k) (va_cwS 1 hts (lw_S q180 q181 q3 q182) rfl rfl rfl (by decide +kernel) ⟨Nat.le_of_ble_eq_true rfl, Nat.le_of_ble_eq_true rfl⟩) ⟨fun a U g mk q => ⟨q.1, trivial⟩, fun U hU hW => ⟨rfl, trivial⟩⟩ rfl rfl hl.1 rfl (lv_room (Nat.le_of_ble_eq_true rfl)) dX2_frequency_16 ⟨Nat.zero_le _, Nat.zero_le _⟩) hS (fun q _ h => h.elim) (fun q h => h.elim) (fun rb _ t_ H locs ht hvm hw hB hz1 hk1 hS => ?_)
  have hP := sk_kept hP hk1
  obtain rfl : rb = sk_sp k := hw
  refine lv_istore_n (lv' := [(3, .int (sk_sp k)), (2, .int 2147483647), (0, .ref h), (1, .ref y)]) hx hb dX2_frequency_19 rfl hl (by decide) rfl (fun ls hl => ?_)
  refine lv_iload_n hx hb dX2_frequency_20 rfl (lv_at hl 0 rfl) ?_
  refine va_calli (va_runS (As := [.int (sk_sp k)]) (rest := []) ⟨hx, hb, hml, hown, hts⟩ (sk_c_rehash l (sk_sp k)) (va_cwS 1 hts (lw_S q185 q186 q3 q187) rfl rfl rfl (by decide +kernel) ⟨Nat.le_of_ble_eq_true rfl, Nat.le_of_ble_eq_true rfl⟩) ⟨fun a U g mk q => ⟨q.1, trivial⟩, fun U hU hW => ⟨rfl, trivial⟩⟩ rfl rfl hl.1 rfl (lv_room (Nat.le_of_ble_eq_true rfl)) dX2_frequency_21 ⟨Nat.zero_le _, Nat.zero_le _⟩) hS (fun q _ h => h.elim) (fun q h => h.elim) (fun rc _ t_ H locs ht hvm hw hB hz1 hk1 hS => ?_)
  have hP := sk_kept hP hk1
  obtain rfl : rc = sk_rh (sk_sp k) := hw
  refine lv_istore (lv' := [(4, .int (sk_rh (sk_sp k))), (3, .int (sk_sp k)), (2, .int 2147483647), (0, .ref h), (1, .ref y)]) hx hb dX2_frequency_24 hl (by decide) rfl (fun ls hl => ?_)
  refine lv_iload_n hx hb dX2_frequency_26 rfl (lv_at hl 1 rfl) ?_
  refine lv_aload_n hx hb dX2_frequency_27 rfl (lv_at hl 3 rfl) ?_
  refine va_get (D := (dC, dI)) (ci := 1) (v := .int 31) (C := RX2) (T := TX2) (N := 4) hx hb hts in_X2 hown hK hP 0 rfl rfl 1 (by decide) (hts _ q29) (fun _ h9 => h9) rfl dX2_frequency_28 ?_
  refine lv_iand hx hb dX2_frequency_31 ?_
  refine lv_iconst (v := 3) hx hb dX2_frequency_32 (by decide) ?_
  refine lv_ishl hx hb dX2_frequency_33 ?_
  refine lv_istore (lv' := [(5, .int (((sk_sp k) &&& 31) <<< ((3 : Int32) &&& 31))), (4, .int (sk_rh (sk_sp k))), (3, .int (sk_sp k)), (2, .int 2147483647), (0, .ref h), (1, .ref y)]) hx hb dX2_frequency_34 hl (by decide) rfl (fun ls hl => ?_)
  refine lv_iconst (v := 0) hx hb dX2_frequency_36 (by decide) ?_
  refine lv_istore (lv' := [(6, .int 0), (5, .int (((sk_sp k) &&& 31) <<< ((3 : Int32) &&& 31))), (4, .int (sk_rh (sk_sp k))), (3, .int (sk_sp k)), (2, .int 2147483647), (0, .ref h), (1, .ref y)]) hx hb dX2_frequency_37 hl (by decide) rfl (fun ls hl => ?_)
  refine W.cs (cells' := 0) (slots' := 0) rfl rfl ?_
  have loop : ∀ (n i : Nat), i ≤ 4 → 5 ≤ i + n → ∀ (ls : Array Slot), lv_has ls 12 [(6, .int (nI i)), (2, .int (nI (sk_m g k i))), (5, .int (((sk_sp k) &&& 31) <<< ((3 : Int32) &&& 31))), (4, .int (sk_rh (sk_sp k))), (3, .int (sk_sp k)), (0, .ref h), (1, .ref y)] → W p l e (headSpec (ws_ yX2_frequency cX2_frequency 12 (some .int)) ({ frames := 2, cells := 0, slots := 0, locals := 40 })).room s m ([.ref h, .ref y] : List Value).toArray below meth c H locs 0 0 (MQ below (va_Qi (fun (r : Int32) (_ : Unit) => r = nI (sk_tv g k)) (fun _ _ => True) sk_no) ([.ref h, .ref y] : List Value).toArray s 0 0 sk_no) (F0 m 39 ls []) := by
    intro n
    induction n with
    | zero => intro i h1 h2; exact absurd h2 (by omega)
    | succ n ih =>
      intro i hi hin0 ls hl
      refine lv_iload hx hb dX2_frequency_39 (lv_at hl 0 rfl) ?_
      refine lv_iconst (v := 4) hx hb dX2_frequency_41 (by decide) ?_
      refine lv_icmp_ge (tgt := 113) hx hb dX2_frequency_42 (by decide) (fun hc => ?_) (fun hc => ?_)
      · have hi4 : i = 4 := by
          rcases Nat.lt_or_ge i 4 with q | q
          · exact absurd hc (nI_ge q (by decide))
          · omega
        subst hi4
        refine lv_iload_n hx hb dX2_frequency_113 rfl (lv_at hl 1 rfl) ?_
        exact W.iret (v := nI (sk_tv g k)) hx hb hr (fun t ht hW => ⟨⟨_, (), rfl, rfl, trivial⟩, hS.F ht⟩) hS.2.2 dX2_frequency_114
      · have hlt : i < 4 := Nat.lt_of_not_le (fun q => hc (nI_le q (by omega)))
        refine lv_iload hx hb dX2_frequency_45 (lv_at hl 3 rfl) ?_
        refine lv_iload hx hb dX2_frequency_47 (lv_at hl 0 rfl) ?_
        refine lv_iconst (v := 3) hx hb dX2_frequency_49 (by decide) ?_
        refine lv_ishl hx hb dX2_frequency_50 ?_
        refine lv_iushr (v := sk_us (sk_rh (sk_sp k)) ((nI i) <<< ((3 : Int32) &&& 31))) hx hb dX2_frequency_51 rfl ?_
        refine lv_topi (fun x7 ex7 => ?_)
        refine lv_istore (lv' := [(7, .int x7), (6, .int (nI i)), (2, .int (nI (sk_m g k i))), (5, .int (((sk_sp k) &&& 31) <<< ((3 : Int32) &&& 31))), (4, .int (sk_rh (sk_sp k))), (3, .int (sk_sp k)), (0, .ref h), (1, .ref y)]) hx hb dX2_frequency_52 hl (by decide) rfl (fun ls hl => ?_)
        refine lv_iload hx hb dX2_frequency_54 (lv_at hl 0 rfl) ?_
        refine lv_iconst (v := 1) hx hb dX2_frequency_56 (by decide) ?_
        refine lv_iushr (v := sk_us x7 1) hx hb dX2_frequency_57 rfl ?_
        refine lv_bipush (v := 15) hx hb dX2_frequency_58 (by decide) ?_
        refine lv_iand hx hb dX2_frequency_60 ?_
        refine lv_topi (fun x8 ex8 => ?_)
        refine lv_istore (lv' := [(8, .int x8), (7, .int x7), (6, .int (nI i)), (2, .int (nI (sk_m g k i))), (5, .int (((sk_sp k) &&& 31) <<< ((3 : Int32) &&& 31))), (4, .int (sk_rh (sk_sp k))), (3, .int (sk_sp k)), (0, .ref h), (1, .ref y)]) hx hb dX2_frequency_61 hl (by decide) rfl (fun ls hl => ?_)
        refine lv_iload hx hb dX2_frequency_63 (lv_at hl 1 rfl) ?_
        refine lv_iconst (v := 1) hx hb dX2_frequency_65 (by decide) ?_
        refine lv_iand hx hb dX2_frequency_66 ?_
        refine lv_topi (fun x9 ex9 => ?_)
        refine lv_istore (lv' := [(9, .int x9), (8, .int x8), (7, .int x7), (6, .int (nI i)), (2, .int (nI (sk_m g k i))), (5, .int (((sk_sp k) &&& 31) <<< ((3 : Int32) &&& 31))), (4, .int (sk_rh (sk_sp k))), (3, .int (sk_sp k)), (0, .ref h), (1, .ref y)]) hx hb dX2_frequency_67 hl (by decide) rfl (fun ls hl => ?_)
        refine lv_iload hx hb dX2_frequency_69 (lv_at hl 5 rfl) ?_
        refine lv_iload hx hb dX2_frequency_71 (lv_at hl 0 rfl) ?_
        refine lv_iadd hx hb dX2_frequency_73 ?_
        refine lv_iload hx hb dX2_frequency_74 (lv_at hl 3 rfl) ?_
        refine lv_iconst (v := 1) hx hb dX2_frequency_76 (by decide) ?_
        refine lv_ishl hx hb dX2_frequency_77 ?_
        refine lv_iadd hx hb dX2_frequency_78 ?_
        refine lv_topi (fun x10 ex10 => ?_)
        refine lv_istore (lv' := [(10, .int x10), (9, .int x9), (8, .int x8), (7, .int x7), (6, .int (nI i)), (2, .int (nI (sk_m g k i))), (5, .int (((sk_sp k) &&& 31) <<< ((3 : Int32) &&& 31))), (4, .int (sk_rh (sk_sp k))), (3, .int (sk_sp k)), (0, .ref h), (1, .ref y)]) hx hb dX2_frequency_79 hl (by decide) rfl (fun ls hl => ?_)
        have htn := sk_turn hg k hlt ex7 ex8 ex9 ex10
        have hin : vp_in x10 256 := by rw [htn.1]; exact vp_in_nI (sk_sl_lt k hlt) (by decide)
        refine lv_aload_n hx hb dX2_frequency_81 rfl (lv_at hl 9 rfl) ?_
        refine va_get (D := (dC, dI)) (ci := 1) (v := .ref t) (C := RX2) (T := TX2) (N := 4) hx hb hts in_X2 hown hK hP 0 rfl rfl 2 (by decide) (hts _ q30) (fun _ h9 => h9) rfl dX2_frequency_82 ?_
        refine lv_iload hx hb dX2_frequency_85 (lv_at hl 0 rfl) ?_
        refine va_lald hx hb hK hP 1 0 rfl rfl hin dX2_frequency_87 ?_
        refine lv_iload hx hb dX2_frequency_88 (lv_at hl 2 rfl) ?_
        refine lv_iconst (v := 2) hx hb dX2_frequency_90 (by decide) ?_
        refine lv_ishl hx hb dX2_frequency_91 ?_
        refine lv_lushr (v := sk_lus (a x10.toNatClampNeg) (x8 <<< ((2 : Int32) &&& 31))) hx hb dX2_frequency_92 rfl ?_
        refine lv_ldc2 (v := 15) hx hb hown (hts _ q193) dX2_frequency_93 ?_
        refine lv_land hx hb dX2_frequency_96 ?_
        refine lv_l2i (v := ((sk_lus (a x10.toNatClampNeg) (x8 <<< ((2 : Int32) &&& 31))) &&& 15 : Int64).toInt32) hx hb dX2_frequency_97 rfl ?_
        refine lv_topi (fun x11 ex11 => ?_)
        obtain rfl : x11 = nI (g (sk_sl k i) (sk_ix k i)) := ex11.trans htn.2
        refine lv_istore (lv' := [(11, .int (nI (g (sk_sl k i) (sk_ix k i)))), (10, .int x10), (9, .int x9), (8, .int x8), (7, .int x7), (6, .int (nI i)), (2, .int (nI (sk_m g k i))), (5, .int (((sk_sp k) &&& 31) <<< ((3 : Int32) &&& 31))), (4, .int (sk_rh (sk_sp k))), (3, .int (sk_sp k)), (0, .ref h), (1, .ref y)]) hx hb dX2_frequency_98 hl (by decide) rfl (fun ls hl => ?_)
        refine lv_iload_n hx hb dX2_frequency_100 rfl (lv_at hl 6 rfl) ?_
        refine lv_iload hx hb dX2_frequency_101 (lv_at hl 0 rfl) ?_
        refine va_mmin hx hb (hml.trans hl.1.symm) hown (hts _ q119) (hts _ q120) (hts _ q9) (hts _ q121) (Nat.le_of_ble_eq_true rfl) (Nat.le_of_ble_eq_true rfl) (Nat.zero_le _) (Nat.zero_le _) dX2_frequency_103 ?_
        refine lv_topi (fun x2 ex2 => ?_)
        have hgs : g (sk_sl k i) (sk_ix k i) < 2 ^ 31 := Nat.lt_of_le_of_lt (sk_Rep_lt hg (sk_ix_lt k i)) (by decide)
        obtain rfl : x2 = nI (sk_m g k (i + 1)) := ex2.trans (sk_min hgs (Nat.lt_of_le_of_lt (sk_m_small g k i) (by decide)))
        refine lv_istore_n (lv' := [(2, .int (nI (sk_m g k (i + 1)))), (11, .int (nI (g (sk_sl k i) (sk_ix k i)))), (10, .int x10), (9, .int x9), (8, .int x8), (7, .int x7), (6, .int (nI i)), (5, .int (((sk_sp k) &&& 31) <<< ((3 : Int32) &&& 31))), (4, .int (sk_rh (sk_sp k))), (3, .int (sk_sp k)), (0, .ref h), (1, .ref y)]) hx hb dX2_frequency_106 rfl hl (by decide) rfl (fun ls hl => ?_)
        refine lv_iinc (v := nI (i + 1)) (lv' := [(6, .int (nI (i + 1))), (2, .int (nI (sk_m g k (i + 1)))), (11, .int (nI (g (sk_sl k i) (sk_ix k i)))), (10, .int x10), (9, .int x9), (8, .int x8), (7, .int x7), (5, .int (((sk_sp k) &&& 31) <<< ((3 : Int32) &&& 31))), (4, .int (sk_rh (sk_sp k))), (3, .int (sk_sp k)), (0, .ref h), (1, .ref y)]) hx hb dX2_frequency_107 hl (k := 6) rfl (nI_1 i) (by decide) rfl (fun ls hl => ?_)
        refine lv_goto (tgt := 39) hx hb dX2_frequency_110 (by decide) ?_
        exact ih (i + 1) hlt (by omega) ls (lv_sub hl [0, 1, 7, 8, 9, 10, 11] rfl)
  exact loop 5 0 (by decide) (by decide) ls (lv_sub hl [0, 4, 1, 2, 3, 5, 6] rfl)
set_option maxHeartbeats 4000000 in
set_option maxRecDepth 100000 in
/-- increment(e), e an Integer that holds k: k's four counters are raised; size grows by at most one; no reset below 2560 -/
theorem sk_c_incr (l : Launch) (dC : Nat → ClassId) (dI : Nat → Nat → Nat) (h t y : Nat) (cL : ClassId) (a : Nat → Int64) (g : sk_G) (n : Nat) (k : Int32) (hg : sk_Rep a g) (hne : h ≠ t) (hn : n + 1 < 2560) : Met l yX2_increment (ws_ yX2_increment cX2_increment 18 none) ({ frames := 2, cells := 0, slots := 0, locals := 40 }) (va_Pc [.ref h, .ref y] (fun U => va_P (dC, dI) skCl [(h, .inr (1, [.int 2560, .int 31, .ref t, .int (nI n)])), (t, .inl (cL, 256, .inr (.inl a)))] U.heap ∧ va_K (dC, dI) skCl [(cL, .long)] U ∧ sk_bx y k U U.heap)) (va_Qv (fun (u : (Nat → Int64) × Nat) => sk_Rep u.1 (sk_inc k g) ∧ u.2 ≤ n + 1) (fun u U => va_P (dC, dI) skCl [(h, .inr (1, [.int 2560, .int 31, .ref t, .int (nI u.2)])), (t, .inl (cL, 256, .inr (.inl u.1)))] U.heap) (fun q => q = h ∨ q = t)) 0 0 (fun q => q = h ∨ q = t) := by
  refine Met.ofW (cc := cX2_increment) (maxL := 18) (ret := none) (by decide) rfl ?_
  intro p e s m args below meth c s₁ B hml hv
  obtain ⟨rfl, hP, hK, hbx⟩ := hv
  have hx := B.exec
  have hb := B.bytes
  have hr := B.returns
  have hts := atoms_spec (ws := (ws_ yX2_increment cX2_increment 18 none)) B.pre
  have hts : ∀ w ∈ lw_all, w.before _ s = true := fun w h => hts w (List.mem_cons_of_mem _ h)
  have hown : s.vm.findClass RX2 = some m.cls := findClass_of_methodNamed B.named
  have hlocks := B.notSynchronized
  have hS : va_S (fun q => q = h ∨ q = t) s.heap s.heap [] := va_S.rf
  have hl := lv_entry ([.ref h, .ref y]) (n := 18) (Nat.le_of_ble_eq_true rfl)
  rw [lg_entry_eq]
  generalize (lg_sl ([.ref h, .ref y]) ++ List.replicate (18 - (lg_sl ([.ref h, .ref y])).length) Slot.unset).toArray = ls at hl ⊢
  have hl : lv_has ls 18 [(0, .ref h), (1, .ref y)] := hl
  refine lv_aload_n hx hb dX2_increment_0 rfl (lv_at hl 0 rfl) ?_
  have hPc := hP.sub (ws' := [(h, .inr (1, [.int 2560, .int 31, .ref t, .int (nI n)]))]) [0] rfl
  have hKc := hK.sub (tys' := []) [] rfl
  refine va_calli (va_runV (As := []) (rest := []) ⟨hx, hb, hml, hown, hts⟩ (sk_c_isNot l dC dI h t 2560 31 (nI n)) (cwV 0 hts (lw_V q163 q164 q165 q3 q166) rfl rfl rfl (by decide +kernel) ⟨Nat.le_of_ble_eq_true rfl, Nat.le_of_ble_eq_true rfl⟩) ⟨fun a U g mk q => ⟨q.1, q.2.1, va_K.moved (u := U) (U := U.calling g mk a) (Vm.Alike.refl U.vm) q.2.2⟩, va_recv hKc hPc (ci := 1) (q0 := 0) rfl rfl, fun U hU hW => ⟨rfl, by (try dsimp only); rw [hU]; exact hPc, va_K.moved hW.alike hKc⟩⟩ rfl rfl hl.1 rfl (lv_room (Nat.le_of_ble_eq_true rfl)) dX2_increment_1 ⟨Nat.zero_le _, Nat.zero_le _⟩) hS (fun q _ h => h.elim) (fun q h => h.elim) (fun r _ t_ H locs ht hvm hw hB hz1 hk1 hS => ?_)
  have hP := sk_kept hP hk1
  have hbx := hbx.kept (fun q hq => hk1 q hq (fun z => z))
  refine lv_if_eq (tgt := 8) hx hb dX2_increment_4 (by decide) (fun _ => ?_) (fun z => absurd hw z)
  refine lv_aload_n hx hb dX2_increment_8 rfl (lv_at hl 1 rfl) ?_
  refine va_calli (va_runU (As := []) (rest := []) ⟨hx, hb, hml, hown, hts⟩ (sk_c_hash l y k) (sk_cwN 0 hts (sk_O (C := "java/lang/Integer") (owner := "java/lang/Object") (y0 := ⟨"java/lang/Object", "hashCode", "()I"⟩) (y := yJ6_hashCode) q167 q169 q168 q173 q174 q11 q175) rfl rfl rfl q179 (by decide +kernel) ⟨Nat.le_of_ble_eq_true rfl, Nat.le_of_ble_eq_true rfl⟩) ⟨fun a U g mk q => ⟨q.1, q.2.moved (u := U) (U := U.calling g mk a) (Vm.Alike.refl U.vm)⟩, sk_bx_recv hbx, fun U hU hW => ⟨rfl, by (try dsimp only); rw [hU]; exact hbx.moved hW.alike⟩⟩ rfl rfl hl.1 rfl (lv_room (Nat.le_of_ble_eq_true rfl)) dX2_increment_9 ⟨Nat.zero_le _, Nat.zero_le _⟩) hS (fun q _ h => h.elim) (fun q h => h.elim) (fun rk _ t_ H locs ht hvm hw hB hz1 hk1 hS => ?_)
  have hP := sk_kept hP hk1
  obtain rfl : k = rk := hw.symm
  refine va_calli (va_runS (As := [.int k]) (rest := []) ⟨hx, hb, hml, hown, hts⟩ (sk_c_spread l k) (va_cwS 1 hts (lw_S q180 q181 q3 q182) rfl rfl rfl (by decide +kernel) ⟨Nat.le_of_ble_eq_true rfl, Nat.le_of_ble_eq_true rfl⟩) ⟨fun a U g mk q => ⟨q.1, trivial⟩, fun U hU hW => ⟨rfl, trivial⟩⟩ rfl rfl hl.1 rfl (lv_room (Nat.le_of_ble_eq_true rfl)) dX2_increment_12 ⟨Nat.zero_le _, Nat.zero_le _⟩) hS (fun q _ h => h.elim) (fun q h => h.elim) (fun rb _ t_ H locs ht hvm hw hB hz1 hk1 hS => ?_)
  have hP := sk_kept hP hk1
  obtain rfl : rb = sk_sp k := hw
  refine lv_istore_n (lv' := [(2, .int (sk_sp k)), (0, .ref h), (1, .ref y)]) hx hb dX2_increment_15 rfl hl (by decide) rfl (fun ls hl => ?_)
  refine lv_iload_n hx hb dX2_increment_16 rfl (lv_at hl 0 rfl) ?_
  refine va_calli (va_runS (As := [.int (sk_sp k)]) (rest := []) ⟨hx, hb, hml, hown, hts⟩ (sk_c_rehash l (sk_sp k)) (va_cwS 1 hts (lw_S q185 q186 q3 q187) rfl rfl rfl (by decide +kernel) ⟨Nat.le_of_ble_eq_true rfl, Nat.le_of_ble_eq_true rfl⟩) ⟨fun a U g mk q => ⟨q.1, trivial⟩, fun U hU hW => ⟨rfl, trivial⟩⟩ rfl rfl hl.1 rfl (lv_room (Nat.le_of_ble_eq_true rfl)) dX2_increment_17 ⟨Nat.zero_le _, Nat.zero_le _⟩) hS (fun q _ h => h.elim) (fun q h => h.elim) (fun rc _ t_ H locs ht hvm hw hB hz1 hk1 hS => ?_)
  have hP := sk_kept hP hk1
  obtain rfl : rc = sk_rh (sk_sp k) := hw
  refine lv_istore_n (lv' := [(3, .int (sk_rh (sk_sp k))), (2, .int (sk_sp k)), (0, .ref h), (1, .ref y)]) hx hb dX2_increment_20 rfl hl (by decide) rfl (fun ls hl => ?_)
  refine lv_iload_n hx hb dX2_increment_21 rfl (lv_at hl 1 rfl) ?_
  refine lv_aload_n hx hb dX2_increment_22 rfl (lv_at hl 2 rfl) ?_
  refine va_get (D := (dC, dI)) (ci := 1) (v := .int 31) (C := RX2) (T := TX2) (N := 4) hx hb hts in_X2 hown hK hP 0 rfl rfl 1 (by decide) (hts _ q29) (fun _ h9 => h9) rfl dX2_increment_23 ?_
  refine lv_iand hx hb dX2_increment_26 ?_
  refine lv_iconst (v := 3) hx hb dX2_increment_27 (by decide) ?_
  refine lv_ishl hx hb dX2_increment_28 ?_
  refine lv_topi (fun x4 ex4 => ?_)
  refine lv_istore (lv' := [(4, .int x4), (3, .int (sk_rh (sk_sp k))), (2, .int (sk_sp k)), (0, .ref h), (1, .ref y)]) hx hb dX2_increment_29 hl (by decide) rfl (fun ls hl => ?_)
  refine lv_iload_n hx hb dX2_increment_31 rfl (lv_at hl 1 rfl) ?_
  refine lv_istore (lv' := [(5, .int (sk_rh (sk_sp k))), (4, .int x4), (3, .int (sk_rh (sk_sp k))), (2, .int (sk_sp k)), (0, .ref h), (1, .ref y)]) hx hb dX2_increment_32 hl (by decide) rfl (fun ls hl => ?_)
  refine lv_iload_n hx hb dX2_increment_34 rfl (lv_at hl 2 rfl) ?_
  refine lv_bipush (v := 8) hx hb dX2_increment_35 (by decide) ?_
  refine lv_iushr (v := sk_us (sk_rh (sk_sp k)) 8) hx hb dX2_increment_37 rfl ?_
  refine lv_topi (fun x6 ex6 => ?_)
  refine lv_istore (lv' := [(6, .int x6), (5, .int (sk_rh (sk_sp k))), (4, .int x4), (3, .int (sk_rh (sk_sp k))), (2, .int (sk_sp k)), (0, .ref h), (1, .ref y)]) hx hb dX2_increment_38 hl (by decide) rfl (fun ls hl => ?_)
  refine lv_iload_n hx hb dX2_increment_40 rfl (lv_at hl 3 rfl) ?_
  refine lv_bipush (v := 16) hx hb dX2_increment_41 (by decide) ?_
  refine lv_iushr (v := sk_us (sk_rh (sk_sp k)) 16) hx hb dX2_increment_43 rfl ?_
  refine lv_topi (fun x7 ex7 => ?_)
  refine lv_istore (lv' := [(7, .int x7), (6, .int x6), (5, .int (sk_rh (sk_sp k))), (4, .int x4), (3, .int (sk_rh (sk_sp k))), (2, .int (sk_sp k)), (0, .ref h), (1, .ref y)]) hx hb dX2_increment_44 hl (by decide) rfl (fun ls hl => ?_)
  refine lv_iload_n hx hb dX2_increment_46 rfl (lv_at hl 4 rfl) ?_
  refine lv_bipush (v := 24) hx hb dX2_increment_47 (by decide) ?_
  refine lv_iushr (v := sk_us (sk_rh (sk_sp k)) 24) hx hb dX2_increment_49 rfl ?_
  refine lv_topi (fun x8 ex8 => ?_)
  refine lv_istore (lv' := [(8, .int x8), (7, .int x7), (6, .int x6), (5, .int (sk_rh (sk_sp k))), (4, .int x4), (3, .int (sk_rh (sk_sp k))), (2, .int (sk_sp k)), (0, .ref h), (1, .ref y)]) hx hb dX2_increment_50 hl (by decide) rfl (fun ls hl => ?_)
  refine lv_iload hx hb dX2_increment_52 (lv_at hl 3 rfl) ?_
  refine lv_iconst (v := 1) hx hb dX2_increment_54 (by decide) ?_
  refine lv_iushr (v := sk_us (sk_rh (sk_sp k)) 1) hx hb dX2_increment_55 rfl ?_
  refine lv_bipush (v := 15) hx hb dX2_increment_56 (by decide) ?_
  refine lv_iand hx hb dX2_increment_58 ?_
  refine lv_topi (fun x9 ex9 => ?_)
  obtain rfl : x9 = nI (sk_ix k 0) := by rw [ex9]; exact (sk_slot0 k).2
  refine lv_istore (lv' := [(9, .int (nI (sk_ix k 0))), (8, .int x8), (7, .int x7), (6, .int x6), (5, .int (sk_rh (sk_sp k))), (4, .int x4), (3, .int (sk_rh (sk_sp k))), (2, .int (sk_sp k)), (0, .ref h), (1, .ref y)]) hx hb dX2_increment_59 hl (by decide) rfl (fun ls hl => ?_)
  refine lv_iload hx hb dX2_increment_61 (lv_at hl 3 rfl) ?_
  refine lv_iconst (v := 1) hx hb dX2_increment_63 (by decide) ?_
  refine lv_iushr (v := sk_us x6 1) hx hb dX2_increment_64 rfl ?_
  refine lv_bipush (v := 15) hx hb dX2_increment_65 (by decide) ?_
  refine lv_iand hx hb dX2_increment_67 ?_
  refine lv_topi (fun x10 ex10 => ?_)
  obtain rfl : x10 = nI (sk_ix k 1) := by rw [ex10, ex6]; exact (sk_slot k (i := 1) (sk_h8 _)).2
  refine lv_istore (lv' := [(10, .int (nI (sk_ix k 1))), (9, .int (nI (sk_ix k 0))), (8, .int x8), (7, .int x7), (6, .int x6), (5, .int (sk_rh (sk_sp k))), (4, .int x4), (3, .int (sk_rh (sk_sp k))), (2, .int (sk_sp k)), (0, .ref h), (1, .ref y)]) hx hb dX2_increment_68 hl (by decide) rfl (fun ls hl => ?_)
  refine lv_iload hx hb dX2_increment_70 (lv_at hl 3 rfl) ?_
  refine lv_iconst (v := 1) hx hb dX2_increment_72 (by decide) ?_
  refine lv_iushr (v := sk_us x7 1) hx hb dX2_increment_73 rfl ?_
  refine lv_bipush (v := 15) hx hb dX2_increment_74 (by decide) ?_
  refine lv_iand hx hb dX2_increment_76 ?_
  refine lv_topi (fun x11 ex11 => ?_)
  obtain rfl : x11 = nI (sk_ix k 2) := by rw [ex11, ex7]; exact (sk_slot k (i := 2) (sk_h16 _)).2
  refine lv_istore (lv' := [(11, .int (nI (sk_ix k 2))), (10, .int (nI (sk_ix k 1))), (9, .int (nI (sk_ix k 0))), (8, .int x8), (7, .int x7), (6, .int x6), (5, .int (sk_rh (sk_sp k))), (4, .int x4), (3, .int (sk_rh (sk_sp k))), (2, .int (sk_sp k)), (0, .ref h), (1, .ref y)]) hx hb dX2_increment_77 hl (by decide) rfl (fun ls hl => ?_)
  refine lv_iload hx hb dX2_increment_79 (lv_at hl 3 rfl) ?_
  refine lv_iconst (v := 1) hx hb dX2_increment_81 (by decide) ?_
  refine lv_iushr (v := sk_us x8 1) hx hb dX2_increment_82 rfl ?_
  refine lv_bipush (v := 15) hx hb dX2_increment_83 (by decide) ?_
  refine lv_iand hx hb dX2_increment_85 ?_
  refine lv_topi (fun x12 ex12 => ?_)
  obtain rfl : x12 = nI (sk_ix k 3) := by rw [ex12, ex8]; exact (sk_slot k (i := 3) (sk_h24 _)).2
  refine lv_istore (lv' := [(12, .int (nI (sk_ix k 3))), (11, .int (nI (sk_ix k 2))), (10, .int (nI (sk_ix k 1))), (9, .int (nI (sk_ix k 0))), (8, .int x8), (7, .int x7), (6, .int x6), (5, .int (sk_rh (sk_sp k))), (4, .int x4), (3, .int (sk_rh (sk_sp k))), (2, .int (sk_sp k)), (0, .ref h), (1, .ref y)]) hx hb dX2_increment_86 hl (by decide) rfl (fun ls hl => ?_)
  refine lv_iload hx hb dX2_increment_88 (lv_at hl 8 rfl) ?_
  refine lv_iload hx hb dX2_increment_90 (lv_at hl 7 rfl) ?_
  refine lv_iconst (v := 1) hx hb dX2_increment_92 (by decide) ?_
  refine lv_iand hx hb dX2_increment_93 ?_
  refine lv_iadd hx hb dX2_increment_94 ?_
  refine lv_topi (fun x13 ex13 => ?_)
  obtain rfl : x13 = nI (sk_sl k 0) := by rw [ex13, ex4]; exact (sk_slot0 k).1
  refine lv_istore (lv' := [(13, .int (nI (sk_sl k 0))), (12, .int (nI (sk_ix k 3))), (11, .int (nI (sk_ix k 2))), (10, .int (nI (sk_ix k 1))), (9, .int (nI (sk_ix k 0))), (8, .int x8), (7, .int x7), (6, .int x6), (5, .int (sk_rh (sk_sp k))), (4, .int x4), (3, .int (sk_rh (sk_sp k))), (2, .int (sk_sp k)), (0, .ref h), (1, .ref y)]) hx hb dX2_increment_95 hl (by decide) rfl (fun ls hl => ?_)
  refine lv_iload hx hb dX2_increment_97 (lv_at hl 9 rfl) ?_
  refine lv_iload hx hb dX2_increment_99 (lv_at hl 7 rfl) ?_
  refine lv_iconst (v := 1) hx hb dX2_increment_101 (by decide) ?_
  refine lv_iand hx hb dX2_increment_102 ?_
  refine lv_iadd hx hb dX2_increment_103 ?_
  refine lv_iconst (v := 2) hx hb dX2_increment_104 (by decide) ?_
  refine lv_iadd hx hb dX2_increment_105 ?_
  refine lv_topi (fun x14 ex14 => ?_)
  obtain rfl : x14 = nI (sk_sl k 1) := by rw [ex14, ex4, ex6]; exact (sk_slot k (i := 1) (sk_h8 _)).1
  refine lv_istore (lv' := [(14, .int (nI (sk_sl k 1))), (13, .int (nI (sk_sl k 0))), (12, .int (nI (sk_ix k 3))), (11, .int (nI (sk_ix k 2))), (10, .int (nI (sk_ix k 1))), (9, .int (nI (sk_ix k 0))), (8, .int x8), (7, .int x7), (6, .int x6), (5, .int (sk_rh (sk_sp k))), (4, .int x4), (3, .int (sk_rh (sk_sp k))), (2, .int (sk_sp k)), (0, .ref h), (1, .ref y)]) hx hb dX2_increment_106 hl (by decide) rfl (fun ls hl => ?_)
  refine lv_iload hx hb dX2_increment_108 (lv_at hl 10 rfl) ?_
  refine lv_iload hx hb dX2_increment_110 (lv_at hl 7 rfl) ?_
  refine lv_iconst (v := 1) hx hb dX2_increment_112 (by decide) ?_
  refine lv_iand hx hb dX2_increment_113 ?_
  refine lv_iadd hx hb dX2_increment_114 ?_
  refine lv_iconst (v := 4) hx hb dX2_increment_115 (by decide) ?_
  refine lv_iadd hx hb dX2_increment_116 ?_
  refine lv_topi (fun x15 ex15 => ?_)
  obtain rfl : x15 = nI (sk_sl k 2) := by rw [ex15, ex4, ex7]; exact (sk_slot k (i := 2) (sk_h16 _)).1
  refine lv_istore (lv' := [(15, .int (nI (sk_sl k 2))), (14, .int (nI (sk_sl k 1))), (13, .int (nI (sk_sl k 0))), (12, .int (nI (sk_ix k 3))), (11, .int (nI (sk_ix k 2))), (10, .int (nI (sk_ix k 1))), (9, .int (nI (sk_ix k 0))), (8, .int x8), (7, .int x7), (6, .int x6), (5, .int (sk_rh (sk_sp k))), (4, .int x4), (3, .int (sk_rh (sk_sp k))), (2, .int (sk_sp k)), (0, .ref h), (1, .ref y)]) hx hb dX2_increment_117 hl (by decide) rfl (fun ls hl => ?_)
  refine lv_iload hx hb dX2_increment_119 (lv_at hl 11 rfl) ?_
  refine lv_iload hx hb dX2_increment_121 (lv_at hl 7 rfl) ?_
  refine lv_iconst (v := 1) hx hb dX2_increment_123 (by decide) ?_
  refine lv_iand hx hb dX2_increment_124 ?_
  refine lv_iadd hx hb dX2_increment_125 ?_
  refine lv_bipush (v := 6) hx hb dX2_increment_126 (by decide) ?_
  refine lv_iadd hx hb dX2_increment_128 ?_
  refine lv_topi (fun x16 ex16 => ?_)
  obtain rfl : x16 = nI (sk_sl k 3) := by rw [ex16, ex4, ex8]; exact (sk_slot k (i := 3) (sk_h24 _)).1
  refine lv_istore (lv' := [(16, .int (nI (sk_sl k 3))), (15, .int (nI (sk_sl k 2))), (14, .int (nI (sk_sl k 1))), (13, .int (nI (sk_sl k 0))), (12, .int (nI (sk_ix k 3))), (11, .int (nI (sk_ix k 2))), (10, .int (nI (sk_ix k 1))), (9, .int (nI (sk_ix k 0))), (8, .int x8), (7, .int x7), (6, .int x6), (5, .int (sk_rh (sk_sp k))), (4, .int x4), (3, .int (sk_rh (sk_sp k))), (2, .int (sk_sp k)), (0, .ref h), (1, .ref y)]) hx hb dX2_increment_129 hl (by decide) rfl (fun ls hl => ?_)
  refine W.cs (cells' := 0) (slots' := 0) rfl rfl ?_
  refine lv_aload_n hx hb dX2_increment_131 rfl (lv_at hl 15 rfl) ?_
  refine lv_iload hx hb dX2_increment_132 (lv_at hl 3 rfl) ?_
  refine lv_iload hx hb dX2_increment_134 (lv_at hl 7 rfl) ?_
  have hPc := hP
  have hKc := hK
  refine va_calli (va_runV (As := [.int (nI (sk_sl k 0)), .int (nI (sk_ix k 0))]) (rest := []) ⟨hx, hb, hml, hown, hts⟩ (sk_c_incAt l dC dI h t cL a g (nI n) (sk_sl k 0) (sk_ix k 0) hg (sk_sl_lt k (by decide)) (sk_ix_lt k 0)) (cwV 2 hts (lw_V q189 q190 q191 q3 q192) rfl rfl rfl (by decide +kernel) ⟨Nat.le_of_ble_eq_true rfl, Nat.le_of_ble_eq_true rfl⟩) ⟨fun a U g mk q => ⟨q.1, q.2.1, va_K.moved (u := U) (U := U.calling g mk a) (Vm.Alike.refl U.vm) q.2.2⟩, va_recv hKc hPc (ci := 1) (q0 := 0) rfl rfl, fun U hU hW => ⟨rfl, by (try dsimp only); rw [hU]; exact hPc, va_K.moved hW.alike hKc⟩⟩ rfl rfl hl.1 rfl (lv_room (Nat.le_of_ble_eq_true rfl)) dX2_increment_136 ⟨Nat.zero_le _, Nat.zero_le _⟩) hS (fun q _ z => Or.inr z) (fun q z => Or.inr z) (fun r0 a1 t_ H locs ht hvm hg1 hB hz1 hk1 hS => ?_)
  rw [ht] at hB
  have hP := sk_P2 hP hne hk1 hB
  refine lv_aload_n hx hb dX2_increment_139 rfl (lv_at hl 15 rfl) ?_
  refine lv_iload hx hb dX2_increment_140 (lv_at hl 2 rfl) ?_
  refine lv_iload hx hb dX2_increment_142 (lv_at hl 6 rfl) ?_
  have hPc := hP
  have hKc := hK
  refine va_calli (va_runV (As := [.int (nI (sk_sl k 1)), .int (nI (sk_ix k 1))]) (rest := [.int r0]) ⟨hx, hb, hml, hown, hts⟩ (sk_c_incAt l dC dI h t cL a1 (sk_up (sk_sl k 0) (sk_ix k 0) g) (nI n) (sk_sl k 1) (sk_ix k 1) hg1 (sk_sl_lt k (by decide)) (sk_ix_lt k 1)) (cwV 2 hts (lw_V q189 q190 q191 q3 q192) rfl rfl rfl (by decide +kernel) ⟨Nat.le_of_ble_eq_true rfl, Nat.le_of_ble_eq_true rfl⟩) ⟨fun a U g mk q => ⟨q.1, q.2.1, va_K.moved (u := U) (U := U.calling g mk a) (Vm.Alike.refl U.vm) q.2.2⟩, va_recv hKc hPc (ci := 1) (q0 := 0) rfl rfl, fun U hU hW => ⟨rfl, by (try dsimp only); rw [hU]; exact hPc, va_K.moved hW.alike hKc⟩⟩ rfl rfl hl.1 rfl (lv_room (Nat.le_of_ble_eq_true rfl)) dX2_increment_144 ⟨Nat.zero_le _, Nat.zero_le _⟩) hS (fun q _ z => Or.inr z) (fun q z => Or.inr z) (fun r1 a2 t_ H locs ht hvm hg2 hB hz1 hk1 hS => ?_)
  rw [ht] at hB
  have hP := sk_P2 hP hne hk1 hB
  refine lv_ior hx hb dX2_increment_147 ?_
  refine lv_aload_n hx hb dX2_increment_148 rfl (lv_at hl 15 rfl) ?_
  refine lv_iload hx hb dX2_increment_149 (lv_at hl 1 rfl) ?_
  refine lv_iload hx hb dX2_increment_151 (lv_at hl 5 rfl) ?_
  have hPc := hP
  have hKc := hK
  refine va_calli (va_runV (As := [.int (nI (sk_sl k 2)), .int (nI (sk_ix k 2))]) (rest := [.int (r0 ||| r1)]) ⟨hx, hb, hml, hown, hts⟩ (sk_c_incAt l dC dI h t cL a2 (sk_up (sk_sl k 1) (sk_ix k 1) (sk_up (sk_sl k 0) (sk_ix k 0) g)) (nI n) (sk_sl k 2) (sk_ix k 2) hg2 (sk_sl_lt k (by decide)) (sk_ix_lt k 2)) (cwV 2 hts (lw_V q189 q190 q191 q3 q192) rfl rfl rfl (by decide +kernel) ⟨Nat.le_of_ble_eq_true rfl, Nat.le_of_ble_eq_true rfl⟩) ⟨fun a U g mk q => ⟨q.1, q.2.1, va_K.moved (u := U) (U := U.calling g mk a) (Vm.Alike.refl U.vm) q.2.2⟩, va_recv hKc hPc (ci := 1) (q0 := 0) rfl rfl, fun U hU hW => ⟨rfl, by (try dsimp only); rw [hU]; exact hPc, va_K.moved hW.alike hKc⟩⟩ rfl rfl hl.1 rfl (lv_room (Nat.le_of_ble_eq_true rfl)) dX2_increment_153 ⟨Nat.zero_le _, Nat.zero_le _⟩) hS (fun q _ z => Or.inr z) (fun q z => Or.inr z) (fun r2 a3 t_ H locs ht hvm hg3 hB hz1 hk1 hS => ?_)
  rw [ht] at hB
  have hP := sk_P2 hP hne hk1 hB
  refine lv_ior hx hb dX2_increment_156 ?_
  refine lv_aload_n hx hb dX2_increment_157 rfl (lv_at hl 15 rfl) ?_
  refine lv_iload hx hb dX2_increment_158 (lv_at hl 0 rfl) ?_
  refine lv_iload hx hb dX2_increment_160 (lv_at hl 4 rfl) ?_
  have hPc := hP
  have hKc := hK
  refine va_calli (va_runV (As := [.int (nI (sk_sl k 3)), .int (nI (sk_ix k 3))]) (rest := [.int ((r0 ||| r1) ||| r2)]) ⟨hx, hb, hml, hown, hts⟩ (sk_c_incAt l dC dI h t cL a3 (sk_up (sk_sl k 2) (sk_ix k 2) (sk_up (sk_sl k 1) (sk_ix k 1) (sk_up (sk_sl k 0) (sk_ix k 0) g))) (nI n) (sk_sl k 3) (sk_ix k 3) hg3 (sk_sl_lt k (by decide)) (sk_ix_lt k 3)) (cwV 2 hts (lw_V q189 q190 q191 q3 q192) rfl rfl rfl (by decide +kernel) ⟨Nat.le_of_ble_eq_true rfl, Nat.le_of_ble_eq_true rfl⟩) ⟨fun a U g mk q => ⟨q.1, q.2.1, va_K.moved (u := U) (U := U.calling g mk a) (Vm.Alike.refl U.vm) q.2.2⟩, va_recv hKc hPc (ci := 1) (q0 := 0) rfl rfl, fun U hU hW => ⟨rfl, by (try dsimp only); rw [hU]; exact hPc, va_K.moved hW.alike hKc⟩⟩ rfl rfl hl.1 rfl (lv_room (Nat.le_of_ble_eq_true rfl)) dX2_increment_162 ⟨Nat.zero_le _, Nat.zero_le _⟩) hS (fun q _ z => Or.inr z) (fun q z => Or.inr z) (fun r3 a4 t_ H locs ht hvm hg4 hB hz1 hk1 hS => ?_)
  rw [ht] at hB
  have hP := sk_P2 hP hne hk1 hB
  refine lv_ior hx hb dX2_increment_165 ?_
  refine lv_topi (fun x17 ex17 => ?_)
  refine lv_istore (lv' := [(17, .int x17), (16, .int (nI (sk_sl k 3))), (15, .int (nI (sk_sl k 2))), (14, .int (nI (sk_sl k 1))), (13, .int (nI (sk_sl k 0))), (12, .int (nI (sk_ix k 3))), (11, .int (nI (sk_ix k 2))), (10, .int (nI (sk_ix k 1))), (9, .int (nI (sk_ix k 0))), (8, .int x8), (7, .int x7), (6, .int x6), (5, .int (sk_rh (sk_sp k))), (4, .int x4), (3, .int (sk_rh (sk_sp k))), (2, .int (sk_sp k)), (0, .ref h), (1, .ref y)]) hx hb dX2_increment_166 hl (by decide) rfl (fun ls hl => ?_)
  refine lv_iload hx hb dX2_increment_168 (lv_at hl 0 rfl) ?_
  refine W.cs (cells' := 0) (slots' := 0) rfl rfl ?_
  have hfin : sk_Rep a4 (sk_inc k g) := hg4
  refine lv_if_eq (tgt := 195) hx hb dX2_increment_170 (by decide) (fun hc => ?_) (fun hc => ?_)
  · exact W.vret hx hb hr (fun t ht hW => ⟨⟨(a4, n), rfl, ⟨hfin, Nat.le_succ n⟩, by (try dsimp only); rw [ht]; exact hP⟩, hS.F ht⟩) hS.2.2 dX2_increment_195
  · have hD : va_D (fun q => q = h ∨ q = t) [(h, .inr (1, [.int 2560, .int 31, .ref t, .int (nI n)])), (t, .inl (cL, 256, .inr (.inl a4)))] := sk_D2 hne
    refine lv_aload_n hx hb dX2_increment_173 rfl (lv_at hl 16 rfl) ?_
    refine lv_dup hx hb dX2_increment_174 rfl ?_
    refine va_get (D := (dC, dI)) (ci := 1) (v := .int (nI n)) (C := RX2) (T := TX2) (N := 4) hx hb hts in_X2 hown hK hP 0 rfl rfl 3 (by decide) (hts _ q31) (fun _ h9 => h9) rfl dX2_increment_175 ?_
    refine lv_iconst (v := 1) hx hb dX2_increment_178 (by decide) ?_
    refine lv_iadd hx hb dX2_increment_179 ?_
    refine lv_topi (fun xs exs => ?_)
    obtain rfl : xs = nI (n + 1) := exs.trans (nI_1 n)
    refine lv_dup_x1 hx hb dX2_increment_180 rfl rfl ?_
    refine va_put (D := (dC, dI)) (ci := 1) (v := .int (nI (n + 1))) (ty := .int) (C := RX2) (T := TX2) (N := 4) hx hb hts in_X2 tyX2 tyX2_ok nmX2 hown hK hP hD hS 0 rfl rfl 3 (by decide) (hts _ q31) (fun _ h9 => h9) rfl (by decide +kernel) rfl rfl (Nat.le_of_ble_eq_true rfl) dX2_increment_181 (fun H locs hP hD hS => ?_)
    have hP : va_P (dC, dI) skCl [(h, .inr (1, [.int 2560, .int 31, .ref t, .int (nI (n + 1))])), (t, .inl (cL, 256, .inr (.inl a4)))] H := hP
    have hD : va_D (fun q => q = h ∨ q = t) [(h, .inr (1, [.int 2560, .int 31, .ref t, .int (nI (n + 1))])), (t, .inl (cL, 256, .inr (.inl a4)))] := hD
    refine lv_aload_n hx hb dX2_increment_184 rfl (lv_at hl 16 rfl) ?_
    refine va_get (D := (dC, dI)) (ci := 1) (v := .int 2560) (C := RX2) (T := TX2) (N := 4) hx hb hts in_X2 hown hK hP 0 rfl rfl 0 (by decide) (hts _ q28) (fun _ h9 => h9) rfl dX2_increment_185 ?_
    refine lv_icmp_ne (tgt := 195) hx hb dX2_increment_188 (by decide) (fun _ => ?_) (fun z => absurd ((nI_eq (show n + 1 < 2 ^ 31 by omega) (show 2560 < 2 ^ 31 by decide)).mp z) (by omega))
    exact W.vret hx hb hr (fun t ht hW => ⟨⟨(a4, n + 1), rfl, ⟨hfin, Nat.le_refl _⟩, by (try dsimp only); rw [ht]; exact hP⟩, hS.F ht⟩) hS.2.2 dX2_increment_195
set_option maxHeartbeats 4000000 in
set_option maxRecDepth 100000 in
/-- ensureCapacity(64) of a new sketch: a table of 256 words of 0, mask 31, sample 2560 -/
theorem sk_c_ensure (l : Launch) (dC : Nat → ClassId) (dI : Nat → Nat → Nat) (h sz : Nat) : Met l yX2_ensureCapacity (ws_ yX2_ensureCapacity cX2_ensureCapacity 5 none) ({ frames := 2, cells := 1, slots := 256, locals := 41 }) (va_Pc [.ref h, .long 64] (fun U => U.heap.size = sz ∧ va_P (dC, dI) skCl [(h, .inr (1, [.int 0, .int 0, .null, .int 0]))] U.heap ∧ va_K (dC, dI) skCl [] U)) (va_Qv (fun (u : Nat × ClassId) => h ≠ u.1 ∧ sz ≤ u.1) (fun u U => va_P (dC, dI) skCl [(h, .inr (1, [.int 2560, .int 31, .ref u.1, .int 0])), (u.1, .inl (u.2, 256, .inr (.inl (fun _ => 0))))] U.heap ∧ va_K (dC, dI) skCl [(u.2, .long)] U) (fun q => q = h ∨ sz ≤ q)) 1 256 (fun q => q = h ∨ sz ≤ q) := by
  refine Met.ofW (cc := cX2_ensureCapacity) (maxL := 5) (ret := none) (by decide) rfl ?_
  intro p e s m args below meth c s₁ B hml hv
  obtain ⟨rfl, hsz, hP, hK⟩ := hv
  have hx := B.exec
  have hb := B.bytes
  have hr := B.returns
  have hts := atoms_spec (ws := (ws_ yX2_ensureCapacity cX2_ensureCapacity 5 none)) B.pre
  have hts : ∀ w ∈ lw_all, w.before _ s = true := fun w h => hts w (List.mem_cons_of_mem _ h)
  have hown : s.vm.findClass RX2 = some m.cls := findClass_of_methodNamed B.named
  have hlocks := B.notSynchronized
  have hS : va_S (fun q => q = h ∨ sz ≤ q) s.heap s.heap [] := va_S.rf
  have hl := lv_entry ([.ref h, .long 64]) (n := 5) (Nat.le_of_ble_eq_true rfl)
  rw [lg_entry_eq]
  generalize (lg_sl ([.ref h, .long 64]) ++ List.replicate (5 - (lg_sl ([.ref h, .long 64])).length) Slot.unset).toArray = ls at hl ⊢
  have hl : lv_has ls 5 [(0, .ref h), (1, .long 64)] := hl
  have hA : ∀ q : Nat, s.heap.size ≤ q → q = h ∨ sz ≤ q := fun q z => Or.inr (by rw [← hsz]; exact z)
  have hD : va_D (fun q => q = h ∨ sz ≤ q) [(h, .inr (1, [.int 0, .int 0, .null, .int 0]))] := sk_D1.weaken (fun _ _ _ z => Or.inl z)
  have hP : va_P (dC, dI) skCl [(h, .inr (1, [.int 0, .int 0, .null, .int 0]))] s.heap := hP
  refine lv_lload_n hx hb dX2_ensureCapacity_0 rfl (lv_at hl 1 rfl) ?_
  refine lv_lconst (v := 0) hx hb dX2_ensureCapacity_1 (by decide) ?_
  refine W.lcmp hx hb dX2_ensureCapacity_2 ?_
  refine lv_topi (fun xa exa => ?_)
  obtain rfl : xa = (1 : Int32) := exa.trans (by decide +kernel)
  refine lv_if_lt (tgt := 10) hx hb dX2_ensureCapacity_3 (by decide) (fun z => absurd z (by decide)) (fun _ => ?_)
  refine lv_iconst (v := 1) hx hb dX2_ensureCapacity_6 (by decide) ?_
  refine lv_goto (tgt := 11) hx hb dX2_ensureCapacity_7 (by decide) ?_
  refine va_callv (va_runS (As := [.int 1]) (rest := []) ⟨hx, hb, hml, hown, hts⟩ (sk_c_require l) (va_cwS 1 hts (lw_S q46 q47 q4 q48) rfl rfl rfl (by decide +kernel) ⟨Nat.le_of_ble_eq_true rfl, Nat.le_of_ble_eq_true rfl⟩) ⟨fun a U g mk q => ⟨q.1, trivial⟩, fun U hU hW => ⟨rfl, trivial⟩⟩ rfl rfl hl.1 rfl (lv_room (Nat.le_of_ble_eq_true rfl)) dX2_ensureCapacity_11 ⟨Nat.zero_le _, Nat.zero_le _⟩) hS (fun q _ h => h.elim) (fun q h => h.elim) (fun _ t_ H locs ht hvm hw hB hz1 hk1 hS => ?_)
  have hP := sk_kept hP hk1
  refine lv_lload_n hx hb dX2_ensureCapacity_14 rfl (lv_at hl 1 rfl) ?_
  refine lv_ldc2 (v := 1073741823) hx hb hown (hts _ q110) dX2_ensureCapacity_15 ?_
  refine va_mmin_long hx hb (hml.trans hl.1.symm) hown (hts _ q111) (hts _ q112) (hts _ q9) (hts _ q113) (Nat.le_of_ble_eq_true rfl) (Nat.le_of_ble_eq_true rfl) (Nat.zero_le _) (Nat.zero_le _) dX2_ensureCapacity_18 ?_
  refine lv_topl (fun xb exb => ?_)
  obtain rfl : xb = (64 : Int64) := exb.trans (by decide +kernel)
  refine lv_l2i (v := (64 : Int64).toInt32) hx hb dX2_ensureCapacity_21 rfl ?_
  refine lv_topi (fun xc exc => ?_)
  obtain rfl : xc = (64 : Int32) := exc.trans (by decide +kernel)
  refine lv_sipush (v := 256) hx hb dX2_ensureCapacity_22 (by decide) ?_
  refine va_mmax hx hb (hml.trans hl.1.symm) hown (hts _ q114) (hts _ q115) (hts _ q9) (hts _ q116) (Nat.le_of_ble_eq_true rfl) (Nat.le_of_ble_eq_true rfl) (Nat.zero_le _) (Nat.zero_le _) dX2_ensureCapacity_25 ?_
  refine lv_topi (fun xd exd => ?_)
  obtain rfl : xd = (256 : Int32) := exd.trans (by decide +kernel)
  refine lv_istore_n (lv' := [(3, .int 256), (0, .ref h), (1, .long 64)]) hx hb dX2_ensureCapacity_28 rfl hl (by decide) rfl (fun ls hl => ?_)
  refine lv_ldc2 (v := 10) hx hb hown (hts _ q117) dX2_ensureCapacity_29 ?_
  refine lv_iload_n hx hb dX2_ensureCapacity_32 rfl (lv_at hl 0 rfl) ?_
  refine lv_i2l (v := (256 : Int32).toInt64) hx hb dX2_ensureCapacity_33 rfl ?_
  refine lv_lmul hx hb dX2_ensureCapacity_34 ?_
  refine lv_topl (fun xe exe => ?_)
  obtain rfl : xe = (2560 : Int64) := exe.trans (by decide +kernel)
  refine lv_ldc2 (v := 2147483647) hx hb hown (hts _ q118) dX2_ensureCapacity_35 ?_
  refine va_mmin_long hx hb (hml.trans hl.1.symm) hown (hts _ q111) (hts _ q112) (hts _ q9) (hts _ q113) (Nat.le_of_ble_eq_true rfl) (Nat.le_of_ble_eq_true rfl) (Nat.zero_le _) (Nat.zero_le _) dX2_ensureCapacity_38 ?_
  refine lv_topl (fun xf exf => ?_)
  obtain rfl : xf = (2560 : Int64) := exf.trans (by decide +kernel)
  refine lv_l2i (v := (2560 : Int64).toInt32) hx hb dX2_ensureCapacity_41 rfl ?_
  refine lv_topi (fun xg exg => ?_)
  obtain rfl : xg = (2560 : Int32) := exg.trans (by decide +kernel)
  refine lv_istore (lv' := [(4, .int 2560), (3, .int 256), (0, .ref h), (1, .long 64)]) hx hb dX2_ensureCapacity_42 hl (by decide) rfl (fun ls hl => ?_)
  refine lv_aload_n hx hb dX2_ensureCapacity_44 rfl (lv_at hl 2 rfl) ?_
  refine va_get (D := (dC, dI)) (ci := 1) (v := .null) (C := RX2) (T := TX2) (N := 4) hx hb hts in_X2 hown hK hP 0 rfl rfl 2 (by decide) (hts _ q30) (fun _ h9 => h9) rfl dX2_ensureCapacity_45 ?_
  refine lv_ifnullN (tgt := 93) hx hb dX2_ensureCapacity_48 (by decide) ?_
  refine lv_aload_n hx hb dX2_ensureCapacity_93 rfl (lv_at hl 2 rfl) ?_
  refine lv_iload_n hx hb dX2_ensureCapacity_94 rfl (lv_at hl 1 rfl) ?_
  refine va_calli (va_runS (As := [.int 256]) (rest := [.ref h]) ⟨hx, hb, hml, hown, hts⟩ (sk_c_ceiling l) (va_cwS 1 hts (lw_S q122 q123 q4 q124) rfl rfl rfl (by decide +kernel) ⟨Nat.le_of_ble_eq_true rfl, Nat.le_of_ble_eq_true rfl⟩) ⟨fun a U g mk q => ⟨q.1, trivial⟩, fun U hU hW => ⟨rfl, trivial⟩⟩ rfl rfl hl.1 rfl (lv_room (Nat.le_of_ble_eq_true rfl)) dX2_ensureCapacity_95 ⟨Nat.zero_le _, Nat.zero_le _⟩) hS (fun q _ h => h.elim) (fun q h => h.elim) (fun r _ t_ H locs ht hvm hw hB hz1 hk1 hS => ?_)
  have hP := sk_kept hP hk1
  obtain rfl : r = (256 : Int32) := hw
  refine W.cs (cells' := 0) (slots' := 0) rfl rfl ?_
  have hsz2 : sz ≤ H.size := by rw [← hsz]; exact hS.1
  refine va_newa (atype := .long) (ty := .long) (N' := 256) (a0 := (256, .inr (.inl (fun _ => 0)))) hx hb (hts _ q134) rfl hK hP hD hS hA (fun cA => rfl) (by decide) (by decide) (Nat.le_of_ble_eq_true rfl) (Nat.le_of_ble_eq_true rfl) (Nat.le_of_ble_eq_true rfl) dX2_ensureCapacity_98 (fun t cL H hK hP hD hS => ?_)
  have hK : va_K (dC, dI) skCl [(cL, .long)] s := hK
  have hP : va_P (dC, dI) skCl [(h, .inr (1, [.int 0, .int 0, .null, .int 0])), (t, .inl (cL, 256, .inr (.inl (fun _ => 0))))] H := hP
  have hD : va_D (fun q => q = h ∨ sz ≤ q) [(h, .inr (1, [.int 0, .int 0, .null, .int 0])), (t, .inl (cL, 256, .inr (.inl (fun _ => 0))))] := hD
  refine W.cs (cells' := 1) (slots' := 256) rfl rfl ?_
  refine va_put (D := (dC, dI)) (ci := 1) (v := .ref t) (ty := .array .long) (C := RX2) (T := TX2) (N := 4) hx hb hts in_X2 tyX2 tyX2_ok nmX2 hown hK hP hD hS 0 rfl rfl 2 (by decide) (hts _ q30) (fun _ h9 => h9) rfl (by decide +kernel) rfl rfl (Nat.le_of_ble_eq_true rfl) dX2_ensureCapacity_100 (fun H locs hP hD hS => ?_)
  have hP : va_P (dC, dI) skCl [(h, .inr (1, [.int 0, .int 0, .ref t, .int 0])), (t, .inl (cL, 256, .inr (.inl (fun _ => 0))))] H := hP
  have hD : va_D (fun q => q = h ∨ sz ≤ q) [(h, .inr (1, [.int 0, .int 0, .ref t, .int 0])), (t, .inl (cL, 256, .inr (.inl (fun _ => 0))))] := hD
  refine lv_aload_n hx hb dX2_ensureCapacity_103 rfl (lv_at hl 2 rfl) ?_
  refine lv_aload_n hx hb dX2_ensureCapacity_104 rfl (lv_at hl 2 rfl) ?_
  refine va_get (D := (dC, dI)) (ci := 1) (v := .ref t) (C := RX2) (T := TX2) (N := 4) hx hb hts in_X2 hown hK hP 0 rfl rfl 2 (by decide) (hts _ q30) (fun _ h9 => h9) rfl dX2_ensureCapacity_105 ?_
  refine va_alen (v := 256) hx hb hK hP 1 0 rfl rfl rfl dX2_ensureCapacity_108 ?_
  refine lv_iconst (v := 3) hx hb dX2_ensureCapacity_109 (by decide) ?_
  refine lv_iushr (v := sk_us 256 3) hx hb dX2_ensureCapacity_110 rfl ?_
  refine lv_topi (fun xh exh => ?_)
  obtain rfl : xh = (32 : Int32) := exh.trans (by decide +kernel)
  refine lv_iconst (v := 1) hx hb dX2_ensureCapacity_111 (by decide) ?_
  refine lv_isub hx hb dX2_ensureCapacity_112 ?_
  refine lv_topi (fun xi exi => ?_)
  obtain rfl : xi = (31 : Int32) := exi.trans (by decide +kernel)
  refine va_put (D := (dC, dI)) (ci := 1) (v := .int 31) (ty := .int) (C := RX2) (T := TX2) (N := 4) hx hb hts in_X2 tyX2 tyX2_ok nmX2 hown hK hP hD hS 0 rfl rfl 1 (by decide) (hts _ q29) (fun _ h9 => h9) rfl (by decide +kernel) rfl rfl (Nat.le_of_ble_eq_true rfl) dX2_ensureCapacity_113 (fun H locs hP hD hS => ?_)
  have hP : va_P (dC, dI) skCl [(h, .inr (1, [.int 0, .int 31, .ref t, .int 0])), (t, .inl (cL, 256, .inr (.inl (fun _ => 0))))] H := hP
  have hD : va_D (fun q => q = h ∨ sz ≤ q) [(h, .inr (1, [.int 0, .int 31, .ref t, .int 0])), (t, .inl (cL, 256, .inr (.inl (fun _ => 0))))] := hD
  refine lv_aload_n hx hb dX2_ensureCapacity_116 rfl (lv_at hl 2 rfl) ?_
  refine lv_iload hx hb dX2_ensureCapacity_117 (lv_at hl 0 rfl) ?_
  refine va_put (D := (dC, dI)) (ci := 1) (v := .int 2560) (ty := .int) (C := RX2) (T := TX2) (N := 4) hx hb hts in_X2 tyX2 tyX2_ok nmX2 hown hK hP hD hS 0 rfl rfl 0 (by decide) (hts _ q28) (fun _ h9 => h9) rfl (by decide +kernel) rfl rfl (Nat.le_of_ble_eq_true rfl) dX2_ensureCapacity_119 (fun H locs hP hD hS => ?_)
  have hP : va_P (dC, dI) skCl [(h, .inr (1, [.int 2560, .int 31, .ref t, .int 0])), (t, .inl (cL, 256, .inr (.inl (fun _ => 0))))] H := hP
  have hD : va_D (fun q => q = h ∨ sz ≤ q) [(h, .inr (1, [.int 2560, .int 31, .ref t, .int 0])), (t, .inl (cL, 256, .inr (.inl (fun _ => 0))))] := hD
  refine lv_aload_n hx hb dX2_ensureCapacity_122 rfl (lv_at hl 2 rfl) ?_
  refine lv_iconst (v := 0) hx hb dX2_ensureCapacity_123 (by decide) ?_
  refine va_put (D := (dC, dI)) (ci := 1) (v := .int 0) (ty := .int) (C := RX2) (T := TX2) (N := 4) hx hb hts in_X2 tyX2 tyX2_ok nmX2 hown hK hP hD hS 0 rfl rfl 3 (by decide) (hts _ q31) (fun _ h9 => h9) rfl (by decide +kernel) rfl rfl (Nat.le_of_ble_eq_true rfl) dX2_ensureCapacity_124 (fun H locs hP hD hS => ?_)
  have hP : va_P (dC, dI) skCl [(h, .inr (1, [.int 2560, .int 31, .ref t, .int 0])), (t, .inl (cL, 256, .inr (.inl (fun _ => 0))))] H := hP
  have hD : va_D (fun q => q = h ∨ sz ≤ q) [(h, .inr (1, [.int 2560, .int 31, .ref t, .int 0])), (t, .inl (cL, 256, .inr (.inl (fun _ => 0))))] := hD
  have ht1 : h ≠ t := fun z => absurd (hD.1 0 1 _ _ rfl rfl z) (by decide)
  exact W.vret hx hb hr (fun u hu hW => ⟨⟨(t, cL), rfl, ⟨ht1, (hD.2 1 _ rfl).resolve_left (fun z => ht1 z.symm)⟩, by (try dsimp only); rw [hu]; exact hP, va_K.moved hW.alike hK⟩, hS.F hu⟩) hS.2.2 dX2_ensureCapacity_127
end
section
/-! THE DESK: SketchDesk(), count, told -/
abbrev sk_w (h0 h1 t : Nat) (cL : ClassId) (a : Nat → Int64) (n : Int32) : va_W := [(h0, .inr (0, [.ref h1])), (h1, .inr (1, [.int 2560, .int 31, .ref t, .int n])), (t, .inl (cL, 256, .inr (.inl a)))]
theorem sk_ge {z : Nat} : ∀ q : Nat, q < z → ¬ z ≤ q := fun _ h => Nat.not_le.mpr h
set_option maxHeartbeats 4000000 in
set_option maxRecDepth 100000 in
/-- told(k): the least of k's four counters; at most one new cell, nothing old is written -/
theorem sk_c_told (l : Launch) (dC : Nat → ClassId) (dI : Nat → Nat → Nat) (tc : Nat) (ad : Nat → Nat) (sz h0 h1 t : Nat) (cL : ClassId) (a : Nat → Int64) (g : sk_G) (n k : Int32) (hg : sk_Rep a g) : Met l yX1_told (ws_ yX1_told cX1_told 2 (some .int)) ({ frames := 4, cells := 1, slots := 1, locals := 80 }) (va_Pc [.ref h0, .int k] (fun U => U.heap.size = sz ∧ va_P (dC, dI) skCl (sk_w h0 h1 t cL a n) U.heap ∧ va_K (dC, dI) skCl [(cL, .long)] U ∧ sk_E tc ad (fun q => sz ≤ q) U U.heap)) (va_Qi (fun (r : Int32) (_ : Unit) => r = nI (sk_tv g k)) (fun _ _ => True) (fun q => sz ≤ q)) 1 1 (fun q => sz ≤ q) := by
  refine Met.ofW (cc := cX1_told) (maxL := 2) (ret := (some .int)) (by decide) rfl ?_
  intro p e s m args below meth c s₁ B hml hv
  obtain ⟨rfl, hsz, hP, hK, hE⟩ := hv
  have hx := B.exec
  have hb := B.bytes
  have hr := B.returns
  have hts := atoms_spec (ws := (ws_ yX1_told cX1_told 2 (some .int))) B.pre
  have hts : ∀ w ∈ lw_all, w.before _ s = true := fun w h => hts w (List.mem_cons_of_mem _ h)
  have hown : s.vm.findClass RX1 = some m.cls := findClass_of_methodNamed B.named
  have hlocks := B.notSynchronized
  have hS : va_S (fun q => s.heap.size ≤ q) s.heap s.heap [] := va_S.rf
  have hl := lv_entry ([.ref h0, .int k]) (n := 2) (Nat.le_of_ble_eq_true rfl)
  rw [lg_entry_eq]
  generalize (lg_sl ([.ref h0, .int k]) ++ List.replicate (2 - (lg_sl ([.ref h0, .int k])).length) Slot.unset).toArray = ls at hl ⊢
  have hl : lv_has ls 2 [(0, .ref h0), (1, .int k)] := hl
  subst hsz
  have hP : va_P (dC, dI) skCl [(h0, .inr (0, [.ref h1])), (h1, .inr (1, [.int 2560, .int 31, .ref t, .int n])), (t, .inl (cL, 256, .inr (.inl a)))] s.heap := hP
  refine lv_aload_n hx hb dX1_told_0 rfl (lv_at hl 0 rfl) ?_
  refine va_get (D := (dC, dI)) (ci := 0) (v := .ref h1) (C := RX1) (T := TX1) (N := 1) hx hb hts in_X1 hown hK hP 0 rfl rfl 0 (by decide) (hts _ q130) (fun _ h9 => h9) rfl dX1_told_1 ?_
  refine lv_iload_n hx hb dX1_told_4 rfl (lv_at hl 1 rfl) ?_
  have hKc := hK.sub (tys' := []) [] rfl
  refine va_callr (va_runS (As := [.int k]) (rest := [.ref h1]) ⟨hx, hb, hml, hown, hts⟩ (sk_c_valueOf l dC dI tc ad s.heap.size k) (va_cwS 1 hts (lw_S q139 q140 q11 q141) rfl rfl rfl (by decide +kernel) ⟨Nat.le_of_ble_eq_true rfl, Nat.le_of_ble_eq_true rfl⟩) ⟨fun a U g mk q => ⟨q.1, q.2.1, va_K.moved (u := U) (U := U.calling g mk a) (Vm.Alike.refl U.vm) q.2.2.1, q.2.2.2.moved (u := U) (U := U.calling g mk a) (Vm.Alike.refl U.vm)⟩, fun U hU hW => ⟨rfl, by rw [hU], va_K.moved hW.alike hKc, by (try dsimp only); rw [hU]; exact hE.moved hW.alike⟩⟩ rfl rfl hl.1 rfl (lv_room (Nat.le_of_ble_eq_true rfl)) dX1_told_5 ⟨Nat.le_of_ble_eq_true rfl, Nat.le_of_ble_eq_true rfl⟩) hS (fun q _ z => z) (fun q z => z) (fun _ y t_ H locs ht hvm hw hB hz1 hk1 hS => ?_)
  rw [ht] at hB
  have hbx := hB.moved hvm.symm
  have hP := sk_kept hP hk1 sk_ge
  refine W.cs (cells' := 1) (slots' := 1) rfl rfl ?_
  have hPc := hP.sub (ws' := [(h1, .inr (1, [.int 2560, .int 31, .ref t, .int n])), (t, .inl (cL, 256, .inr (.inl a)))]) [1, 2] rfl
  refine va_calli (va_runV (As := [.ref y]) (rest := []) ⟨hx, hb, hml, hown, hts⟩ (sk_c_freq l dC dI h1 t y cL a g n k hg) (cwV 1 hts (lw_V q210 q211 q212 q3 q213) rfl rfl rfl (by decide +kernel) ⟨Nat.le_of_ble_eq_true rfl, Nat.le_of_ble_eq_true rfl⟩) ⟨fun a U g mk q => ⟨q.1, q.2.1, va_K.moved (u := U) (U := U.calling g mk a) (Vm.Alike.refl U.vm) q.2.2.1, q.2.2.2.moved (u := U) (U := U.calling g mk a) (Vm.Alike.refl U.vm)⟩, va_recv hK hPc (ci := 1) (q0 := 0) rfl rfl, fun U hU hW => ⟨rfl, by (try dsimp only); rw [hU]; exact hPc, va_K.moved hW.alike hK, by (try dsimp only); rw [hU]; exact hbx.moved hW.alike⟩⟩ rfl rfl hl.1 rfl (lv_room (Nat.le_of_ble_eq_true rfl)) dX1_told_8 ⟨Nat.le_of_ble_eq_true rfl, Nat.le_of_ble_eq_true rfl⟩) hS (fun q _ h => h.elim) (fun q h => h.elim) (fun r _ t_ H locs ht hvm hw hB hz1 hk1 hS => ?_)
  have hP := sk_kept hP hk1
  refine W.cs (cells' := 1) (slots' := 1) rfl rfl ?_
  exact W.iret (v := r) hx hb hr (fun u hu hW => ⟨⟨r, (), rfl, hw, trivial⟩, hS.F hu⟩) hS.2.2 dX1_told_11
set_option maxHeartbeats 4000000 in
set_option maxRecDepth 100000 in
/-- count(k): k's four counters are raised -/
theorem sk_c_count (l : Launch) (dC : Nat → ClassId) (dI : Nat → Nat → Nat) (tc : Nat) (ad : Nat → Nat) (sz h0 h1 t : Nat) (cL : ClassId) (a : Nat → Int64) (g : sk_G) (n : Nat) (k : Int32) (hg : sk_Rep a g) (hne : h1 ≠ t) (hn : n + 1 < 2560) : Met l yX1_count (ws_ yX1_count cX1_count 2 none) ({ frames := 4, cells := 1, slots := 1, locals := 80 }) (va_Pc [.ref h0, .int k] (fun U => U.heap.size = sz ∧ va_P (dC, dI) skCl (sk_w h0 h1 t cL a (nI n)) U.heap ∧ va_K (dC, dI) skCl [(cL, .long)] U ∧ sk_E tc ad (fun q => q = h1 ∨ q = t ∨ sz ≤ q) U U.heap)) (va_Qv (fun (u : (Nat → Int64) × Nat) => sk_Rep u.1 (sk_inc k g) ∧ u.2 ≤ n + 1) (fun u U => va_P (dC, dI) skCl [(h1, .inr (1, [.int 2560, .int 31, .ref t, .int (nI u.2)])), (t, .inl (cL, 256, .inr (.inl u.1)))] U.heap) (fun q => q = h1 ∨ q = t ∨ sz ≤ q)) 1 1 (fun q => q = h1 ∨ q = t ∨ sz ≤ q) := by
  refine Met.ofW (cc := cX1_count) (maxL := 2) (ret := none) (by decide) rfl ?_
  intro p e s m args below meth c s₁ B hml hv
  obtain ⟨rfl, hsz, hP, hK, hE⟩ := hv
  have hx := B.exec
  have hb := B.bytes
  have hr := B.returns
  have hts := atoms_spec (ws := (ws_ yX1_count cX1_count 2 none)) B.pre
  have hts : ∀ w ∈ lw_all, w.before _ s = true := fun w h => hts w (List.mem_cons_of_mem _ h)
  have hown : s.vm.findClass RX1 = some m.cls := findClass_of_methodNamed B.named
  have hlocks := B.notSynchronized
  have hS : va_S (fun q => q = h1 ∨ q = t ∨ sz ≤ q) s.heap s.heap [] := va_S.rf
  have hl := lv_entry ([.ref h0, .int k]) (n := 2) (Nat.le_of_ble_eq_true rfl)
  rw [lg_entry_eq]
  generalize (lg_sl ([.ref h0, .int k]) ++ List.replicate (2 - (lg_sl ([.ref h0, .int k])).length) Slot.unset).toArray = ls at hl ⊢
  have hl : lv_has ls 2 [(0, .ref h0), (1, .int k)] := hl
  subst hsz
  have hP : va_P (dC, dI) skCl [(h0, .inr (0, [.ref h1])), (h1, .inr (1, [.int 2560, .int 31, .ref t, .int (nI n)])), (t, .inl (cL, 256, .inr (.inl a)))] s.heap := hP
  have hEc := hE.narrow (B := fun q => s.heap.size ≤ q) (fun q z => Or.inr (Or.inr z))
  refine lv_aload_n hx hb dX1_count_0 rfl (lv_at hl 0 rfl) ?_
  refine va_get (D := (dC, dI)) (ci := 0) (v := .ref h1) (C := RX1) (T := TX1) (N := 1) hx hb hts in_X1 hown hK hP 0 rfl rfl 0 (by decide) (hts _ q130) (fun _ h9 => h9) rfl dX1_count_1 ?_
  refine lv_iload_n hx hb dX1_count_4 rfl (lv_at hl 1 rfl) ?_
  have hKc := hK.sub (tys' := []) [] rfl
  refine va_callr (va_runS (As := [.int k]) (rest := [.ref h1]) ⟨hx, hb, hml, hown, hts⟩ (sk_c_valueOf l dC dI tc ad s.heap.size k) (va_cwS 1 hts (lw_S q139 q140 q11 q141) rfl rfl rfl (by decide +kernel) ⟨Nat.le_of_ble_eq_true rfl, Nat.le_of_ble_eq_true rfl⟩) ⟨fun a U g mk q => ⟨q.1, q.2.1, va_K.moved (u := U) (U := U.calling g mk a) (Vm.Alike.refl U.vm) q.2.2.1, q.2.2.2.moved (u := U) (U := U.calling g mk a) (Vm.Alike.refl U.vm)⟩, fun U hU hW => ⟨rfl, by rw [hU], va_K.moved hW.alike hKc, by (try dsimp only); rw [hU]; exact hEc.moved hW.alike⟩⟩ rfl rfl hl.1 rfl (lv_room (Nat.le_of_ble_eq_true rfl)) dX1_count_5 ⟨Nat.le_of_ble_eq_true rfl, Nat.le_of_ble_eq_true rfl⟩) hS (fun q _ z => Or.inr (Or.inr z)) (fun q z => Or.inr (Or.inr z)) (fun _ y t_ H locs ht hvm hw hB hz1 hk1 hS => ?_)
  rw [ht] at hB
  have hbx := hB.moved hvm.symm
  have hP := sk_kept hP hk1 sk_ge
  refine W.cs (cells' := 1) (slots' := 1) rfl rfl ?_
  have hPc := hP.sub (ws' := [(h1, .inr (1, [.int 2560, .int 31, .ref t, .int (nI n)])), (t, .inl (cL, 256, .inr (.inl a)))]) [1, 2] rfl
  refine va_callv (va_runV (As := [.ref y]) (rest := []) ⟨hx, hb, hml, hown, hts⟩ (sk_c_incr l dC dI h1 t y cL a g n k hg hne hn) (cwV 1 hts (lw_V q159 q160 q161 q3 q162) rfl rfl rfl (by decide +kernel) ⟨Nat.le_of_ble_eq_true rfl, Nat.le_of_ble_eq_true rfl⟩) ⟨fun a U g mk q => ⟨q.1, q.2.1, va_K.moved (u := U) (U := U.calling g mk a) (Vm.Alike.refl U.vm) q.2.2.1, q.2.2.2.moved (u := U) (U := U.calling g mk a) (Vm.Alike.refl U.vm)⟩, va_recv hK hPc (ci := 1) (q0 := 0) rfl rfl, fun U hU hW => ⟨rfl, by (try dsimp only); rw [hU]; exact hPc, va_K.moved hW.alike hK, by (try dsimp only); rw [hU]; exact hbx.moved hW.alike⟩⟩ rfl rfl hl.1 rfl (lv_room (Nat.le_of_ble_eq_true rfl)) dX1_count_8 ⟨Nat.le_of_ble_eq_true rfl, Nat.le_of_ble_eq_true rfl⟩) hS (fun q _ z => z.elim (fun z => Or.inl z) (fun z => Or.inr (Or.inl z))) (fun q z => z.elim (fun z => Or.inl z) (fun z => Or.inr (Or.inl z))) (fun u t_ H locs ht hvm hw hB hz1 hk1 hS => ?_)
  rw [ht] at hB
  refine W.cs (cells' := 1) (slots' := 1) rfl rfl ?_
  exact W.vret hx hb hr (fun v hv hW => ⟨⟨u, rfl, hw, by (try dsimp only); rw [hv]; exact hB⟩, hS.F hv⟩) hS.2.2 dX1_count_11
set_option maxHeartbeats 4000000 in
set_option maxRecDepth 100000 in
/-- SketchDesk(): a desk whose counters are 0; two more new cells, of 260 slots -/
theorem sk_c_desk (l : Launch) (dC : Nat → ClassId) (dI : Nat → Nat → Nat) (h0 sz : Nat) : Met l yX1_init (ws_ yX1_init cX1_init 1 none) ({ frames := 3, cells := 2, slots := 260, locals := 65 }) (va_Pc [.ref h0] (fun U => U.heap.size = sz ∧ va_P (dC, dI) skCl [(h0, .inr (0, [.null]))] U.heap ∧ va_K (dC, dI) skCl [] U)) (va_Qv (fun (u : Nat × Nat × ClassId) => u.1 ≠ u.2.1 ∧ sz ≤ u.1 ∧ sz ≤ u.2.1) (fun u U => va_P (dC, dI) skCl (sk_w h0 u.1 u.2.1 u.2.2 (fun _ => 0) 0) U.heap ∧ va_K (dC, dI) skCl [(u.2.2, .long)] U) (fun q => q = h0 ∨ sz ≤ q)) 2 260 (fun q => q = h0 ∨ sz ≤ q) := by
  refine Met.ofW (cc := cX1_init) (maxL := 1) (ret := none) (by decide) rfl ?_
  intro p e s m args below meth c s₁ B hml hv
  obtain ⟨rfl, hsz, hP, hK⟩ := hv
  have hx := B.exec
  have hb := B.bytes
  have hr := B.returns
  have hts := atoms_spec (ws := (ws_ yX1_init cX1_init 1 none)) B.pre
  have hts : ∀ w ∈ lw_all, w.before _ s = true := fun w h => hts w (List.mem_cons_of_mem _ h)
  have hown : s.vm.findClass RX1 = some m.cls := findClass_of_methodNamed B.named
  have hlocks := B.notSynchronized
  have hin : meth.name = "<init>" := (name_of_methodNamed B.named B.method).1
  have hS : va_S (fun q => q = h0 ∨ sz ≤ q) s.heap s.heap [] := va_S.rf
  have hl := lv_entry ([.ref h0]) (n := 1) (Nat.le_of_ble_eq_true rfl)
  rw [lg_entry_eq]
  generalize (lg_sl ([.ref h0]) ++ List.replicate (1 - (lg_sl ([.ref h0])).length) Slot.unset).toArray = ls at hl ⊢
  have hl : lv_has ls 1 [(0, .ref h0)] := hl
  subst hsz
  have hA : ∀ q : Nat, s.heap.size ≤ q → q = h0 ∨ s.heap.size ≤ q := fun q z => Or.inr z
  have hD : va_D (fun q => q = h0 ∨ s.heap.size ≤ q) [(h0, .inr (0, [.null]))] := sk_D1.weaken (fun _ _ _ z => Or.inl z)
  have hP : va_P (dC, dI) skCl [(h0, .inr (0, [.null]))] s.heap := hP
  refine lv_aload_n hx hb dX1_init_0 rfl (lv_at hl 0 rfl) ?_
  refine W.objInit hx hb hown (hts _ q19) (hts _ q20) (hts _ q21) rfl (by rw [hml]; exact hl.1) rfl dX1_init_1 (Nat.le_of_ble_eq_true rfl) (Nat.le_of_ble_eq_true rfl) ?_
  refine W.eq (g2 := F0 m 4 ls []) rfl ?_
  refine lv_aload_n hx hb dX1_init_4 rfl (lv_at hl 0 rfl) ?_
  refine va_new (ci := 1) (fs := [.int 0, .int 0, .null, .int 0]) (C := RX2) (T := TX2) (N := 4) hx hb hts in_X2 tyX2 tyX2_ok hown (hts _ q22) (hts _ q23) (hts _ q3) hK hP hD hS hA rfl (fun j hj => by rcases (show j = 0 ∨ j = 1 ∨ j = 2 ∨ j = 3 by omega) with rfl | rfl | rfl | rfl <;> rfl) (Nat.le_of_ble_eq_true rfl) (Nat.le_of_ble_eq_true rfl) dX1_init_5 (fun h1 H hP hD hS => ?_)
  have hP : va_P (dC, dI) skCl [(h0, .inr (0, [.null])), (h1, .inr (1, [.int 0, .int 0, .null, .int 0]))] H := hP
  have hD : va_D (fun q => q = h0 ∨ s.heap.size ≤ q) [(h0, .inr (0, [.null])), (h1, .inr (1, [.int 0, .int 0, .null, .int 0]))] := hD
  refine W.cs (cells' := 1) (slots' := 4) rfl rfl ?_
  refine lv_dup hx hb dX1_init_8 rfl ?_
  refine va_callv (va_runI (As := []) (rest := [.ref h1, .ref h0]) ⟨hx, hb, hml, hown, hts⟩ (sk_c_fsInit l h1) (cwI 0 hts (lw_meth q26) rfl rfl rfl (hts _ q3) (hts _ q24) (hts _ q25) rfl (by decide +kernel) ⟨Nat.le_of_ble_eq_true rfl, Nat.le_of_ble_eq_true rfl⟩) ⟨fun a U g mk q => ⟨q.1, trivial⟩, fun U hU hW => ⟨rfl, trivial⟩⟩ rfl rfl hl.1 rfl (lv_room (Nat.le_of_ble_eq_true rfl)) dX1_init_9 ⟨Nat.le_of_ble_eq_true rfl, Nat.le_of_ble_eq_true rfl⟩) hS (fun q _ h => h.elim) (fun q h => h.elim) (fun _ t_ H locs ht hvm hw hB hz1 hk1 hS => ?_)
  have hP := sk_kept hP hk1
  refine W.cs (cells' := 1) (slots' := 4) rfl rfl ?_
  refine va_putF (D := (dC, dI)) (ci := 0) (v := .ref h1) (ty := .object "FrequencySketch") (C := RX1) (T := TX1) (N := 1) hx hb hts in_X1 tyX1 tyX1_ok nmX1 hown hK hP hD hS 0 rfl rfl 0 (by decide) (hts _ q130) (fun _ h9 => h9) rfl hin rfl (by decide +kernel) rfl rfl (Nat.le_of_ble_eq_true rfl) dX1_init_12 (fun H locs hP hD hS => ?_)
  have hP : va_P (dC, dI) skCl [(h0, .inr (0, [.ref h1])), (h1, .inr (1, [.int 0, .int 0, .null, .int 0]))] H := hP
  have hD : va_D (fun q => q = h0 ∨ s.heap.size ≤ q) [(h0, .inr (0, [.ref h1])), (h1, .inr (1, [.int 0, .int 0, .null, .int 0]))] := hD
  refine lv_aload_n hx hb dX1_init_15 rfl (lv_at hl 0 rfl) ?_
  refine va_get (D := (dC, dI)) (ci := 0) (v := .ref h1) (C := RX1) (T := TX1) (N := 1) hx hb hts in_X1 hown hK hP 0 rfl rfl 0 (by decide) (hts _ q130) (fun _ h9 => h9) rfl dX1_init_16 ?_
  refine lv_ldc2 (v := 64) hx hb hown (hts _ q41) dX1_init_19 ?_
  have hne : h0 ≠ h1 := fun z => absurd (hD.1 0 1 _ _ rfl rfl z) (by decide)
  have hge : s.heap.size ≤ h1 := (hD.2 1 _ rfl).resolve_left (fun z => hne z.symm)
  have h0l := (hP 0 _ rfl).lt
  have hsz0 := hS.1
  have hPc := hP.sub (ws' := [(h1, .inr (1, [.int 0, .int 0, .null, .int 0]))]) [1] rfl
  have hP0 := hP.sub (ws' := [(h0, .inr (0, [.ref h1]))]) [0] rfl
  refine va_callv (va_runV (As := [.long 64]) (rest := []) ⟨hx, hb, hml, hown, hts⟩ (sk_c_ensure l dC dI h1 H.size) (cwV 1 hts (lw_V q42 q43 q44 q3 q45) rfl rfl rfl (by decide +kernel) ⟨Nat.le_of_ble_eq_true rfl, Nat.le_of_ble_eq_true rfl⟩) ⟨fun a U g mk q => ⟨q.1, q.2.1, q.2.2.1, va_K.moved (u := U) (U := U.calling g mk a) (Vm.Alike.refl U.vm) q.2.2.2⟩, va_recv hK hPc (ci := 1) (q0 := 0) rfl rfl, fun U hU hW => ⟨rfl, by rw [hU], by (try dsimp only); rw [hU]; exact hPc, va_K.moved hW.alike hK⟩⟩ rfl rfl hl.1 rfl (lv_room (Nat.le_of_ble_eq_true rfl)) dX1_init_22 ⟨Nat.le_of_ble_eq_true rfl, Nat.le_of_ble_eq_true rfl⟩) hS (fun q _ z => Or.inr (z.elim (fun z => by rw [z]; exact hge) (fun z => Nat.le_trans hS.1 z))) (fun q z => Or.inr (z.elim (fun z => by rw [z]; exact hge) (fun z => Nat.le_trans hS.1 z))) (fun u t_ H locs ht hvm hw hB hz1 hk1 hS => ?_)
  obtain ⟨t, cL⟩ := u
  obtain ⟨hw1, hw2⟩ := hw
  obtain ⟨hP1, hK1⟩ := hB
  rw [ht] at hP1
  have hK1 := va_K.moved hvm.symm hK1
  have hP0 := hP0.kept (fun k x hx => hk1 _ (hP0 k x hx).lt (fun z => by
    have hl0 := (List.getElem?_eq_some_iff.mp hx).1
    simp only [List.length_cons, List.length_nil] at hl0
    have hk0 : k = 0 := by omega
    subst hk0
    cases hx
    rcases z with z | z
    · exact hne z
    · exact absurd h0l (Nat.not_lt.mpr z)))
  have hPf := hP0.app hP1
  refine W.cs (cells' := 2) (slots' := 260) rfl rfl ?_
  have htl : s.heap.size ≤ t := Nat.le_trans hsz0 hw2
  exact W.vret hx hb hr (fun v hv hW => ⟨⟨(h1, t, cL), rfl, ⟨hw1, hge, htl⟩, by (try dsimp only); rw [hv]; exact hPf, va_K.moved hW.alike hK1⟩, hS.F hv⟩) hS.2.2 dX1_init_25
end
section
/-! CALLS OF THE DESK AS ONE ROW EACH; the law's constants -/
/-- a desk at q, whose cells lie in lo .. hi, with counters g and size n -/
def sk_dk (D : va_G) (s : State) (lo hi q : Nat) (g : sk_G) (n : Nat) (H : Heap) : Prop := ∃ (h1 t : Nat) (cL : ClassId) (a : Nat → Int64), sk_Rep a g ∧ (q ≠ h1 ∧ q ≠ t ∧ h1 ≠ t) ∧ (lo ≤ q ∧ q < hi ∧ lo ≤ h1 ∧ h1 < hi ∧ lo ≤ t ∧ t < hi) ∧ va_K D skCl [(cL, .long)] s ∧ va_P D skCl (sk_w q h1 t cL a (nI n)) H
theorem sk_dk.kept {D : va_G} {s : State} {lo hi q : Nat} {g : sk_G} {n : Nat} {H H1 : Heap} (h : sk_dk D s lo hi q g n H) (hk : ∀ x : Nat, x < H.size → lo ≤ x → x < hi → H1[x]? = H[x]?) : sk_dk D s lo hi q g n H1 := by
  obtain ⟨h1, t, cL, a, hr, hne, hb, hK, hP⟩ := h
  refine ⟨h1, t, cL, a, hr, hne, hb, hK, hP.kept fun k x hx => ?_⟩
  have hl := (hP k x hx).lt
  obtain ⟨b1, b2, b3, b4, b5, b6⟩ := hb
  match k, hx with
  | 0, hx => cases hx; exact hk _ hl b1 b2
  | 1, hx => cases hx; exact hk _ hl b3 b4
  | 2, hx => cases hx; exact hk _ hl b5 b6
  | k + 3, hx => simp at hx
theorem sk_dk.all {D : va_G} {s : State} {lo hi q : Nat} {g : sk_G} {n : Nat} {H H1 : Heap} (h : sk_dk D s lo hi q g n H) (hk : ∀ x : Nat, x < H.size → H1[x]? = H[x]?) : sk_dk D s lo hi q g n H1 := h.kept fun x hx _ _ => hk x hx
theorem sk_dk.g15 {D : va_G} {s : State} {lo hi q : Nat} {g : sk_G} {n : Nat} {H : Heap} (h : sk_dk D s lo hi q g n H) : ∀ i j, j < 16 → g i j ≤ 15 := by
  obtain ⟨h1, t, cL, a, hr, -⟩ := h
  exact fun i j hj => sk_Rep_lt hr hj
/-- the law's constants: its code, the tables' words, the known classes, Integer's cache, the script -/
def sk_En (p : Program) (s : State) (m : MethodId) (args : Array Value) (c : Code) (cc : ByteArray) (nL : Nat) (dC : Nat → ClassId) (dI : Nat → Nat → Nat) (tc : Nat) (ad : Nat → Nat) (b L : Nat) (xs : Nat → Int32) : Prop :=
  CallFix p m c cc nL s args lw_all RX0 ∧ va_K (dC, dI) skCl [] s ∧ sk_E tc ad (fun q => s.heap.size ≤ q) s s.heap ∧ va_T .int b L (fun j => .int (xs j)) (fun q => s.heap.size ≤ q) s s.heap ∧ L ≤ 64
def sk_cell (L : Nat) (xs : Nat → Int32) (k : Nat) : Int32 := if k < L then xs k else 0
set_option maxHeartbeats 4000000 in
set_option maxRecDepth 100000 in
/-- cell(s, k): s[k], or 0 behind the end -/
theorem sk_c_cell (l : Launch) (b L : Nat) (xs : Nat → Int32) (k : Nat) (hL : L < 2 ^ 31) (hk : k < 2 ^ 31) : Met l yX0_cell (ws_ yX0_cell cX0_cell 2 (some .int)) ({ frames := 0, cells := 0, slots := 0, locals := 0 }) (va_Pc [.ref b, .int (nI k)] (fun U => va_T .int b L (fun j => .int (xs j)) sk_no U U.heap)) (va_Qi (fun (r : Int32) (_ : Unit) => r = sk_cell L xs k) (fun _ _ => True) sk_no) 0 0 sk_no := by
  refine Met.ofW (cc := cX0_cell) (maxL := 2) (ret := (some .int)) (by decide) rfl ?_
  intro p e s m args below meth c s₁ B hml hv
  obtain ⟨rfl, hT⟩ := hv
  have hx := B.exec
  have hb := B.bytes
  have hr := B.returns
  have hts := atoms_spec (ws := (ws_ yX0_cell cX0_cell 2 (some .int))) B.pre
  have hts : ∀ w ∈ lw_all, w.before _ s = true := fun w h => hts w (List.mem_cons_of_mem _ h)
  have hown : s.vm.findClass RX0 = some m.cls := findClass_of_methodNamed B.named
  have hlocks := B.notSynchronized
  have hS : va_S sk_no s.heap s.heap [] := va_S.rf
  have hl := lv_entry ([.ref b, .int (nI k)]) (n := 2) (Nat.le_of_ble_eq_true rfl)
  rw [lg_entry_eq]
  generalize (lg_sl ([.ref b, .int (nI k)]) ++ List.replicate (2 - (lg_sl ([.ref b, .int (nI k)])).length) Slot.unset).toArray = ls at hl ⊢
  have hl : lv_has ls 2 [(0, .ref b), (1, .int (nI k))] := hl
  refine lv_iload_n hx hb dX0_cell_0 rfl (lv_at hl 1 rfl) ?_
  refine lv_aload_n hx hb dX0_cell_1 rfl (lv_at hl 0 rfl) ?_
  refine va_tlen (v := nI L) hx hb hT hS rfl dX0_cell_2 ?_
  refine lv_icmp_ge (tgt := 12) hx hb dX0_cell_3 (by decide) (fun hc => ?_) (fun hc => ?_)
  · have hge : ¬ k < L := fun z => nI_ge z hL hc
    refine lv_iconst (v := 0) hx hb dX0_cell_12 (by decide) ?_
    exact W.iret (v := 0) hx hb hr (fun t ht hW => ⟨⟨0, (), rfl, (if_neg hge).symm, trivial⟩, hS.F ht⟩) hS.2.2 dX0_cell_13
  · have hlt : k < L := Nat.lt_of_not_le (fun z => hc (nI_le z hk))
    refine lv_aload_n hx hb dX0_cell_6 rfl (lv_at hl 0 rfl) ?_
    refine lv_iload_n hx hb dX0_cell_7 rfl (lv_at hl 1 rfl) ?_
    refine va_ti (v := .int (xs k)) hx hb hT hS (vp_in_nI hlt (by omega)) (by rw [nI_clamp (by omega)]) dX0_cell_8 ?_
    refine lv_goto (tgt := 13) hx hb dX0_cell_9 (by decide) ?_
    exact W.iret (v := _) hx hb hr (fun t ht hW => ⟨⟨_, (), rfl, (if_pos hlt).symm, trivial⟩, hS.F ht⟩) hS.2.2 dX0_cell_13
section SKW
variable {p : Program} {l : Launch} {e : Env} {R : Room} {s : State} {m : MethodId} {args : Array Value} {below : List Frame} {meth : Method} {c : Code} {H : Heap} {locs : List Loc} {cells slots : Nat} {Q : State → Prop}
variable {cc : ByteArray} {pc nL : Nat} {ls : Array Slot} {rest : List Value} {dC : Nat → ClassId} {dI : Nat → Nat → Nat} {tc : Nat} {ad : Nat → Nat} {b L : Nat} {xs : Nat → Int32} {lo hi q : Nat} {g : sk_G} {n : Nat} {k : Int32}
set_option maxHeartbeats 4000000 in
set_option maxRecDepth 100000 in
/-- x.told(k) -/
theorem sk_W_told (hE : sk_En p s m args c cc nL dC dI tc ad b L xs) (hsize : ls.size = nL) (hS : va_S (fun q => s.heap.size ≤ q) s.heap H locs) (hd : sk_dk (dC, dI) s lo hi q g n H) (hdg : decode cc pc = .ok (.invokevirtual 10, 3)) (hR : 5 ≤ R.frames ∧ 101 ≤ R.locals) (hW : (rest.map fun v => v.category).sum ≤ 8) (hf : cells + 1 ≤ R.cells ∧ slots + 1 ≤ R.slots)
    (kk : ∀ (H1 : Heap) (locs1 : List Loc), H.size ≤ H1.size → (∀ x : Nat, x < H.size → H1[x]? = H[x]?) → va_S (fun q => s.heap.size ≤ q) s.heap H1 locs1 → W p l e R s m args below meth c H1 locs1 (cells + 1) (slots + 1) Q (F0 m (pc + 3) ls (.int (nI (sk_tv g k)) :: rest))) : W p l e R s m args below meth c H locs cells slots Q (F0 m pc ls (.int k :: .ref q :: rest)) := by
  obtain ⟨hC, hK0, hEc, hT, hL⟩ := hE
  obtain ⟨h1, t, cL, a, hg, hne, hbd, hK, hP⟩ := hd
  obtain ⟨hx, hb, hml, hown, hts⟩ := hC
  have hE1 : sk_E tc ad (fun q => H.size ≤ q) s H := (hEc.kept hS.2.1).narrow fun q z => Nat.le_trans hS.1 z
  refine va_calli (va_runV (As := [.int k]) (rest := rest) ⟨hx, hb, hml, hown, hts⟩ (sk_c_told l dC dI tc ad H.size q h1 t cL a g (nI n) k hg) (cwV 1 hts (lw_V q206 q207 q208 q2 q209) rfl rfl rfl (by decide +kernel) ⟨hR.1, hR.2⟩) ⟨fun a U g mk q => ⟨q.1, q.2.1, q.2.2.1, va_K.moved (u := U) (U := U.calling g mk a) (Vm.Alike.refl U.vm) q.2.2.2.1, q.2.2.2.2.moved (u := U) (U := U.calling g mk a) (Vm.Alike.refl U.vm)⟩, va_recv hK hP (ci := 0) (q0 := 0) rfl rfl, fun U hU hW => ⟨rfl, by rw [hU], by (try dsimp only); rw [hU]; exact hP, va_K.moved hW.alike hK, by (try dsimp only); rw [hU]; exact hE1.moved hW.alike⟩⟩ rfl rfl hsize rfl (lv_room hW) hdg hf) hS (fun q _ z => Nat.le_trans hS.1 z) (fun q z => Nat.le_trans hS.1 z) (fun r u t_ H1 locs1 ht hvm hw hB hz1 hk1 hS1 => ?_)
  obtain rfl : r = nI (sk_tv g k) := hw
  exact kk H1 locs1 hz1 (fun x hx => hk1 x hx (Nat.not_le.mpr hx)) hS1
set_option maxHeartbeats 4000000 in
set_option maxRecDepth 100000 in
/-- x.count(k) -/
theorem sk_W_count (hE : sk_En p s m args c cc nL dC dI tc ad b L xs) (hsize : ls.size = nL) (hS : va_S (fun q => s.heap.size ≤ q) s.heap H locs) (hd : sk_dk (dC, dI) s lo hi q g n H) (hlo : s.heap.size ≤ lo) (hn : n + 1 < 2560) (hdg : decode cc pc = .ok (.invokevirtual 14, 3)) (hR : 5 ≤ R.frames ∧ 101 ≤ R.locals) (hW : (rest.map fun v => v.category).sum ≤ 8) (hf : cells + 1 ≤ R.cells ∧ slots + 1 ≤ R.slots)
    (kk : ∀ (n1 : Nat) (H1 : Heap) (locs1 : List Loc), n1 ≤ n + 1 → H.size ≤ H1.size → (∀ x : Nat, x < H.size → ¬ (lo ≤ x ∧ x < hi) → H1[x]? = H[x]?) → sk_dk (dC, dI) s lo hi q (sk_inc k g) n1 H1 → va_S (fun q => s.heap.size ≤ q) s.heap H1 locs1 → W p l e R s m args below meth c H1 locs1 (cells + 1) (slots + 1) Q (F0 m (pc + 3) ls rest)) : W p l e R s m args below meth c H locs cells slots Q (F0 m pc ls (.int k :: .ref q :: rest)) := by
  obtain ⟨hC, hK0, hEc, hT, hL⟩ := hE
  obtain ⟨h1, t, cL, a, hg, hne, hbd, hK, hP⟩ := hd
  obtain ⟨b1, b2, b3, b4, b5, b6⟩ := id hbd
  obtain ⟨hx, hb, hml, hown, hts⟩ := hC
  have hA1 : ∀ x : Nat, (x = h1 ∨ x = t ∨ H.size ≤ x) → s.heap.size ≤ x := fun x z => by
    have := hS.1
    omega
  have hE1 : sk_E tc ad (fun x => x = h1 ∨ x = t ∨ H.size ≤ x) s H := (hEc.kept hS.2.1).narrow hA1
  refine va_callv (va_runV (As := [.int k]) (rest := rest) ⟨hx, hb, hml, hown, hts⟩ (sk_c_count l dC dI tc ad H.size q h1 t cL a g n k hg hne.2.2 hn) (cwV 1 hts (lw_V q135 q136 q137 q2 q138) rfl rfl rfl (by decide +kernel) ⟨hR.1, hR.2⟩) ⟨fun a U g mk q => ⟨q.1, q.2.1, q.2.2.1, va_K.moved (u := U) (U := U.calling g mk a) (Vm.Alike.refl U.vm) q.2.2.2.1, q.2.2.2.2.moved (u := U) (U := U.calling g mk a) (Vm.Alike.refl U.vm)⟩, va_recv hK hP (ci := 0) (q0 := 0) rfl rfl, fun U hU hW => ⟨rfl, by rw [hU], by (try dsimp only); rw [hU]; exact hP, va_K.moved hW.alike hK, by (try dsimp only); rw [hU]; exact hE1.moved hW.alike⟩⟩ rfl rfl hsize rfl (lv_room hW) hdg hf) hS (fun x _ z => hA1 x z) (fun x z => hA1 x z) (fun u t_ H1 locs1 ht hvm hw hB hz1 hk1 hS1 => ?_)
  rw [ht] at hB
  refine kk u.2 H1 locs1 hw.2 hz1 (fun x hx hnot => hk1 x hx (fun z => hnot ?_)) ?_ hS1
  · rcases z with z | z | z
    · exact ⟨by omega, by omega⟩
    · exact ⟨by omega, by omega⟩
    · omega
  · have hP0 : va_P (dC, dI) skCl [(q, .inr (0, [.ref h1]))] H := hP.sub [0] rfl
    have hql := (hP0 0 _ rfl).lt
    have hP0 := hP0.kept (H1 := H1) (fun i x hi => by
      have hl0 := (List.getElem?_eq_some_iff.mp hi).1
      simp only [List.length_cons, List.length_nil] at hl0
      have hk0 : i = 0 := by omega
      subst hk0
      cases hi
      refine hk1 _ hql (fun z => ?_)
      rcases z with z | z | z
      · exact hne.1 z
      · exact hne.2.1 z
      · omega)
    exact ⟨h1, t, cL, u.1, hw.1, hne, hbd, hK, hP0.app hB⟩
set_option maxHeartbeats 4000000 in
set_option maxRecDepth 100000 in
/-- new SketchDesk() -/
theorem sk_W_new (hE : sk_En p s m args c cc nL dC dI tc ad b L xs) (hsize : ls.size = nL) (hS : va_S (fun q => s.heap.size ≤ q) s.heap H locs) (hdg0 : decode cc pc = .ok (.new 7, 3)) (hdg3 : decode cc (pc + 3) = .ok (.dup, 1)) (hdg4 : decode cc (pc + 3 + 1) = .ok (.invokespecial 9, 3)) (hR : 5 ≤ R.frames ∧ 101 ≤ R.locals) (hW : (rest.map fun v => v.category).sum ≤ 7) (hf : cells + 3 ≤ R.cells ∧ slots + 261 ≤ R.slots)
    (kk : ∀ (q : Nat) (H1 : Heap) (locs1 : List Loc), H.size ≤ H1.size → (∀ x : Nat, x < H.size → H1[x]? = H[x]?) → sk_dk (dC, dI) s H.size H1.size q sk_zero 0 H1 → va_S (fun q => s.heap.size ≤ q) s.heap H1 locs1 → W p l e R s m args below meth c H1 locs1 (cells + 3) (slots + 261) Q (F0 m (pc + 7) ls (.ref q :: rest))) : W p l e R s m args below meth c H locs cells slots Q (F0 m pc ls rest) := by
  obtain ⟨hC, hK, hEc, hT, hL⟩ := hE
  obtain ⟨hx, hb, hml, hown, hts⟩ := hC
  have hP : va_P (dC, dI) skCl [] H := fun k q h => by simp at h
  have hD : va_D (fun q => H.size ≤ q) [] := ⟨fun i j p q h => by simp at h, fun k q h => by simp at h⟩
  have hS0 : va_S (fun q => H.size ≤ q) H H [] := va_S.rf
  refine va_forget hS.2.2 ?_
  refine va_new (ci := 0) (fs := [.null]) (C := RX1) (T := TX1) (N := 1) hx hb hts in_X1 tyX1 tyX1_ok hown (hts _ q14) (hts _ q15) (hts _ q2) hK hP hD hS0 (fun _ z => z) rfl (fun j hj => by rcases (show j = 0 by omega) with rfl <;> rfl) (by omega) (by omega) hdg0 (fun q H2 hP2 hD2 hS2 => ?_)
  have hP2 : va_P (dC, dI) skCl [(q, .inr (0, [.null]))] H2 := hP2
  have hq : H.size ≤ q := hD2.2 0 _ rfl
  have hq2 : q < H2.size := (hP2 0 _ rfl).lt
  have hz2 : H.size ≤ H2.size := hS2.1
  refine lv_dup hx hb hdg3 rfl ?_
  have hA1 : ∀ x : Nat, (x = q ∨ H2.size ≤ x) → H.size ≤ x := fun x z => by
    rcases z with z | z
    · rw [z]; exact hq
    · exact Nat.le_trans hz2 z
  have hW2 : ((Value.ref q :: rest).map fun v => v.category).sum ≤ 8 := by
    show 1 + (rest.map fun v => v.category).sum ≤ 8
    omega
  refine va_callv (va_runI (As := []) (rest := .ref q :: rest) ⟨hx, hb, hml, hown, hts⟩ (sk_c_desk l dC dI q H2.size) (cwI 0 hts (lw_meth q18) rfl rfl rfl (hts _ q2) (hts _ q16) (hts _ q17) rfl (by decide +kernel) ⟨by show 4 ≤ _; omega, by show 85 ≤ _; omega⟩) ⟨fun a U g mk q => ⟨q.1, q.2.1, q.2.2.1, va_K.moved (u := U) (U := U.calling g mk a) (Vm.Alike.refl U.vm) q.2.2.2⟩, fun U hU hW => ⟨rfl, by rw [hU], by (try dsimp only); rw [hU]; exact hP2, va_K.moved hW.alike hK⟩⟩ rfl rfl hsize rfl (lv_room hW2) hdg4 ⟨by omega, by omega⟩) hS2 (fun x _ z => hA1 x z) (fun x z => hA1 x z) (fun u t_ H3 locs3 ht hvm hw hB hz1 hk1 hS3 => ?_)
  obtain ⟨h1, t, cL⟩ := u
  obtain ⟨w1, w2, w3⟩ := hw
  obtain ⟨hP3, hK3⟩ := hB
  rw [ht] at hP3
  have hK3 := va_K.moved hvm.symm hK3
  refine W.cs (cells' := cells + 3) (slots' := slots + 261) (by omega) (by omega) ?_
  refine kk q H3 locs3 hS3.1 (fun x hx3 => hS3.2.1 x hx3 (Nat.not_le.mpr hx3)) ⟨h1, t, cL, fun _ => 0, sk_Rep_zero, ⟨?_, ?_, w1⟩, ⟨hq, (hP3 0 _ rfl).lt, ?_, (hP3 1 _ rfl).lt, ?_, (hP3 2 _ rfl).lt⟩, hK3, hP3⟩ ⟨Nat.le_trans hS.1 hS3.1, fun x h1 h2 => ?_, fun x hx3 => Nat.le_trans hS.1 (hS3.2.2 x hx3)⟩
  · intro z
    exact absurd hq2 (Nat.not_lt.mpr (by rw [z]; exact w2))
  · intro z
    exact absurd hq2 (Nat.not_lt.mpr (by rw [z]; exact w3))
  · exact Nat.le_trans hz2 w2
  · exact Nat.le_trans hz2 w3
  · have hxl : x < H.size := Nat.lt_of_lt_of_le h1 hS.1
    rw [hS3.2.1 x hxl (Nat.not_le.mpr hxl)]
    exact hS.2.1 x h1 h2
set_option maxHeartbeats 4000000 in
set_option maxRecDepth 100000 in
/-- cell(s, k) -/
theorem sk_W_cell {k : Nat} (hE : sk_En p s m args c cc nL dC dI tc ad b L xs) (hsize : ls.size = nL) (hS : va_S (fun q => s.heap.size ≤ q) s.heap H locs) (hk : k < 2 ^ 31) (hdg : decode cc pc = .ok (.invokestatic 27, 3)) (hR : 5 ≤ R.frames ∧ 101 ≤ R.locals) (hW : (rest.map fun v => v.category).sum ≤ 8) (hf : cells ≤ R.cells ∧ slots ≤ R.slots)
    (kk : ∀ (H1 : Heap) (locs1 : List Loc), H.size ≤ H1.size → (∀ x : Nat, x < H.size → H1[x]? = H[x]?) → va_S (fun q => s.heap.size ≤ q) s.heap H1 locs1 → W p l e R s m args below meth c H1 locs1 cells slots Q (F0 m (pc + 3) ls (.int (sk_cell L xs k) :: rest))) : W p l e R s m args below meth c H locs cells slots Q (F0 m pc ls (.int (nI k) :: .ref b :: rest)) := by
  obtain ⟨hC, hK, hEc, hT, hL⟩ := hE
  obtain ⟨hx, hb, hml, hown, hts⟩ := hC
  have hT1 : va_T .int b L (fun j => .int (xs j)) sk_no s H := (hT.kept hS.2.1).narrow fun q z => z.elim
  refine va_calli (va_runS (As := [.ref b, .int (nI k)]) (rest := rest) ⟨hx, hb, hml, hown, hts⟩ (sk_c_cell l b L xs k (by omega) hk) (va_cwS 2 hts (lw_S q218 q219 q1 q220) rfl rfl rfl (by decide +kernel) ⟨by show 1 ≤ _; omega, by show 21 ≤ _; omega⟩) ⟨fun a U g mk q => ⟨q.1, va_T.moved (u := U) (U := U.calling g mk a) (Vm.Alike.refl U.vm) q.2⟩, fun U hU hW => ⟨rfl, by (try dsimp only); rw [hU]; exact va_T.moved hW.alike hT1⟩⟩ rfl rfl hsize rfl (lv_room hW) hdg hf) hS (fun q _ z => z.elim) (fun q z => z.elim) (fun r u t_ H1 locs1 ht hvm hw hB hz1 hk1 hS1 => ?_)
  obtain rfl : r = sk_cell L xs k := hw
  exact kk H1 locs1 hz1 (fun x hx => hk1 x hx (fun z => z)) hS1
end SKW
end
section
/-! THE LAW's apart: 15 counts of one int, then 8192 others are asked -/
section SKA
variable {p : Program} {l : Launch} {e : Env} {R : Room} {s : State} {m : MethodId} {args : Array Value} {below : List Frame} {meth : Method} {c : Code} {Q : State → Prop}
variable {dC : Nat → ClassId} {dI : Nat → Nat → Nat} {tc : Nat} {ad : Nat → Nat} {b L : Nat} {xs : Nat → Int32}
set_option maxHeartbeats 4000000 in
set_option maxRecDepth 100000 in
theorem sk_apart_1 (hE : sk_En p s m args c cX0_apart 5 dC dI tc ad b L xs) (hR : 5 ≤ R.frames ∧ 101 ≤ R.locals) {f : Int32} {q lo hi : Nat} (hlo_d : s.heap.size ≤ lo) (hRc : 9000 ≤ R.cells ∧ 9000 ≤ R.slots)
    (kk : ∀ (cells slots : Nat) (H : Heap) (locs : List Loc) (sn : Nat) (ls : Array Slot), cells ≤ 100 → slots ≤ 400 → sk_dk (dC, dI) s lo hi q (sk_it f 15) sn H → sn ≤ 15 → va_S (fun q => s.heap.size ≤ q) s.heap H locs → lv_has ls 5 [(4, .int (nI 15)), (0, .ref b), (1, .ref q), (2, .int f), (3, .int 0)] → W p l e R s m args below meth c H locs cells slots Q (F0 m 37 ls [])) :
    ∀ (n i : Nat), i ≤ 15 → 16 ≤ i + n → ∀ (cells slots sn : Nat) (H : Heap) (locs : List Loc) (ls : Array Slot), cells + (15 - i) ≤ 100 → slots + (15 - i) ≤ 400 → sk_dk (dC, dI) s lo hi q (sk_it f i) sn H → sn ≤ i → va_S (fun q => s.heap.size ≤ q) s.heap H locs → lv_has ls 5 [(4, .int (nI i)), (0, .ref b), (1, .ref q), (2, .int f), (3, .int 0)] → W p l e R s m args below meth c H locs cells slots Q (F0 m 19 ls []) := by
  obtain ⟨hx, hb, hml, hown, hts⟩ := hE.1
  obtain ⟨-, -, -, hT, hL⟩ := id hE
  intro n
  induction n with
  | zero => intro i h1 h2; exact absurd h2 (by omega)
  | succ n ih =>
    intro i hi0 hin cells slots sn H locs ls hc1 hc2 hd hsn0 hS hl
    refine lv_iload hx hb dX0_apart_19 (lv_at hl 0 rfl) ?_
    refine lv_bipush (v := 15) hx hb dX0_apart_21 (by decide) ?_
    refine lv_icmp_ge (tgt := 37) hx hb dX0_apart_23 (by decide) (fun hc => ?_) (fun hc => ?_)
    · have hi4 : i = 15 := by
        rcases Nat.lt_or_ge i 15 with z | z
        · exact absurd hc (nI_ge z (by decide))
        · omega
      subst hi4
      exact kk cells slots H locs sn ls (by omega) (by omega) hd (by omega) hS hl
    · have hlt : i < 15 := Nat.lt_of_not_le (fun z => hc (nI_le z (by omega)))
      refine lv_aload_n hx hb dX0_apart_26 rfl (lv_at hl 2 rfl) ?_
      refine lv_iload_n hx hb dX0_apart_27 rfl (lv_at hl 3 rfl) ?_
      refine sk_W_count hE hl.1 hS hd hlo_d (by omega) dX0_apart_28 hR (Nat.le_of_ble_eq_true rfl) ⟨by omega, by omega⟩ (fun sn1 H locs hsn hz hk hd hS => ?_)
      refine lv_iinc (v := nI (i + 1)) (lv' := [(4, .int (nI (i + 1))), (0, .ref b), (1, .ref q), (2, .int f), (3, .int 0)]) hx hb dX0_apart_31 hl (k := 0) rfl (nI_1 i) (by decide) rfl (fun ls hl => ?_)
      refine lv_goto (tgt := 19) hx hb dX0_apart_34 (by decide) ?_
      exact ih (i + 1) hlt (by omega) (cells + 1) (slots + 1) sn1 H locs ls (by omega) (by omega) hd (by omega) hS (lv_sub hl [0, 1, 2, 3, 4] rfl)
set_option maxHeartbeats 4000000 in
set_option maxRecDepth 100000 in
theorem sk_apart_2 (hE : sk_En p s m args c cX0_apart 5 dC dI tc ad b L xs) (hR : 5 ≤ R.frames ∧ 101 ≤ R.locals) {f : Int32} {q lo hi sn : Nat} (hRc : 9000 ≤ R.cells ∧ 9000 ≤ R.slots)
    (kk : ∀ (cells slots : Nat) (H : Heap) (locs : List Loc) (ls : Array Slot), cells ≤ 8800 → slots ≤ 8800 → sk_dk (dC, dI) s lo hi q (sk_it f 15) sn H → va_S (fun q => s.heap.size ≤ q) s.heap H locs → lv_has ls 5 [(3, .int (nI (sk_ab f 8192))), (0, .ref b), (1, .ref q), (2, .int f)] → W p l e R s m args below meth c H locs cells slots Q (F0 m 68 ls [])) :
    ∀ (n j : Nat), j ≤ 8192 → 8193 ≤ j + n → ∀ (cells slots : Nat) (H : Heap) (locs : List Loc) (ls : Array Slot), cells + (8192 - j) ≤ 8800 → slots + (8192 - j) ≤ 8800 → sk_dk (dC, dI) s lo hi q (sk_it f 15) sn H → va_S (fun q => s.heap.size ≤ q) s.heap H locs → lv_has ls 5 [(4, .int (nI (j + 1))), (3, .int (nI (sk_ab f j))), (0, .ref b), (1, .ref q), (2, .int f)] → W p l e R s m args below meth c H locs cells slots Q (F0 m 40 ls []) := by
  obtain ⟨hx, hb, hml, hown, hts⟩ := hE.1
  obtain ⟨-, -, -, hT, hL⟩ := id hE
  intro n
  induction n with
  | zero => intro j h1 h2; exact absurd h2 (by omega)
  | succ n ih =>
    intro j hj0 hin cells slots H locs ls hc1 hc2 hd hS hl
    refine lv_iload hx hb dX0_apart_40 (lv_at hl 0 rfl) ?_
    refine lv_sipush (v := 8192) hx hb dX0_apart_42 (by decide) ?_
    refine lv_icmp_gt (tgt := 68) hx hb dX0_apart_45 (by decide) (fun hc => ?_) (fun hc => ?_)
    · have hi4 : j = 8192 := by
        rcases Nat.lt_or_ge j 8192 with z | z
        · exact absurd hc (nI_nlt (a := 8192) (b := j + 1) z (by decide))
        · omega
      subst hi4
      exact kk cells slots H locs ls (by omega) (by omega) hd hS (lv_sub hl [1, 2, 3, 4] rfl)
    · have hlt : j < 8192 := Nat.lt_of_not_le (fun z => hc (nI_lt (a := 8192) (b := j + 1) (by omega) (by omega)))
      refine lv_aload_n hx hb dX0_apart_48 rfl (lv_at hl 3 rfl) ?_
      refine lv_iload_n hx hb dX0_apart_49 rfl (lv_at hl 4 rfl) ?_
      refine lv_iload hx hb dX0_apart_50 (lv_at hl 0 rfl) ?_
      refine lv_iadd hx hb dX0_apart_52 ?_
      refine sk_W_told hE hl.1 hS hd dX0_apart_53 hR (Nat.le_of_ble_eq_true rfl) ⟨by omega, by omega⟩ (fun H locs hz hk hS => ?_)
      have hd := hd.all hk
      have hts15 := sk_tv_15 hd.g15 (f + nI (j + 1))
      refine lv_if_le (tgt := 62) hx hb dX0_apart_56 (by decide) (fun hv => ?_) (fun hv => ?_)
      · have hv0 : ¬ 0 < sk_tv (sk_it f 15) (f + nI (j + 1)) := fun z => nI_nle z (by omega) hv
        have e1 : sk_ab f (j + 1) = sk_ab f j := if_neg hv0
        refine lv_iinc (v := nI (j + 1 + 1)) (lv' := [(4, .int (nI (j + 1 + 1))), (3, .int (nI (sk_ab f j))), (0, .ref b), (1, .ref q), (2, .int f)]) hx hb dX0_apart_62 hl (k := 0) rfl (nI_1 (j + 1)) (by decide) rfl (fun ls hl => ?_)
        refine lv_goto (tgt := 40) hx hb dX0_apart_65 (by decide) ?_
        exact ih (j + 1) hlt (by omega) (cells + 1) (slots + 1) H locs ls (by omega) (by omega) hd hS (by rw [e1]; exact (lv_sub hl [0, 1, 2, 3, 4] rfl))
      · have hv0 : 0 < sk_tv (sk_it f 15) (f + nI (j + 1)) := Nat.pos_of_ne_zero (fun z => hv (by rw [z]; decide))
        have e1 : sk_ab f (j + 1) = sk_ab f j + 1 := if_pos hv0
        refine lv_iinc (v := nI (sk_ab f j + 1)) (lv' := [(3, .int (nI (sk_ab f j + 1))), (4, .int (nI (j + 1))), (0, .ref b), (1, .ref q), (2, .int f)]) hx hb dX0_apart_59 hl (k := 1) rfl (nI_1 (sk_ab f j)) (by decide) rfl (fun ls hl => ?_)
        refine lv_iinc (v := nI (j + 1 + 1)) (lv' := [(4, .int (nI (j + 1 + 1))), (3, .int (nI (sk_ab f j + 1))), (0, .ref b), (1, .ref q), (2, .int f)]) hx hb dX0_apart_62 hl (k := 1) rfl (nI_1 (j + 1)) (by decide) rfl (fun ls hl => ?_)
        refine lv_goto (tgt := 40) hx hb dX0_apart_65 (by decide) ?_
        exact ih (j + 1) hlt (by omega) (cells + 1) (slots + 1) H locs ls (by omega) (by omega) hd hS (by rw [e1]; exact (lv_sub hl [0, 1, 2, 3, 4] rfl))
set_option maxHeartbeats 4000000 in
set_option maxRecDepth 100000 in
theorem sk_apart_body (hE : sk_En p s m args c cX0_apart 5 dC dI tc ad b L xs) (hR : 5 ≤ R.frames ∧ 101 ≤ R.locals) (hRc : 9000 ≤ R.cells ∧ 9000 ≤ R.slots) {cells slots : Nat} {H : Heap} {locs : List Loc} {ls : Array Slot} (hc1 : cells = 0) (hc2 : slots = 0) (hS : va_S (fun q => s.heap.size ≤ q) s.heap H locs) (hl : lv_has ls 5 [(0, .ref b)])
    (kk : ∀ (cells slots : Nat) (H : Heap) (locs : List Loc) (ls : Array Slot), cells ≤ 9000 → slots ≤ 9000 → va_S (fun q => s.heap.size ≤ q) s.heap H locs → W p l e R s m args below meth c H locs cells slots Q (F0 m 90 ls [.int 1])) : W p l e R s m args below meth c H locs cells slots Q (F0 m 0 ls []) := by
  obtain ⟨hx, hb, hml, hown, hts⟩ := hE.1
  obtain ⟨-, -, -, hT, hL⟩ := id hE
  have hlo_d := hS.1
  refine sk_W_new hE hl.1 hS dX0_apart_0 dX0_apart_3 dX0_apart_4 hR (Nat.le_of_ble_eq_true rfl) ⟨by omega, by omega⟩ (fun q Hd locs hz hk hd hS => ?_)
  refine lv_astore_n (lv' := [(1, .ref q), (0, .ref b)]) hx hb dX0_apart_7 rfl hl (by decide) rfl (fun ls hl => ?_)
  refine lv_aload_n hx hb dX0_apart_8 rfl (lv_at hl 1 rfl) ?_
  refine lv_iconst (v := 0) hx hb dX0_apart_9 (by decide) ?_
  refine sk_W_cell (k := 0) hE hl.1 hS (by decide) dX0_apart_10 hR (Nat.le_of_ble_eq_true rfl) ⟨by omega, by omega⟩ (fun H locs hz hk hS => ?_)
  have hd := hd.all hk
  generalize hfe : sk_cell L xs 0 = f
  refine lv_istore_n (lv' := [(2, .int f), (1, .ref q), (0, .ref b)]) hx hb dX0_apart_13 rfl hl (by decide) rfl (fun ls hl => ?_)
  refine lv_iconst (v := 0) hx hb dX0_apart_14 (by decide) ?_
  refine lv_istore_n (lv' := [(3, .int 0), (2, .int f), (1, .ref q), (0, .ref b)]) hx hb dX0_apart_15 rfl hl (by decide) rfl (fun ls hl => ?_)
  refine lv_iconst (v := 0) hx hb dX0_apart_16 (by decide) ?_
  refine lv_istore (lv' := [(4, .int 0), (3, .int 0), (2, .int f), (1, .ref q), (0, .ref b)]) hx hb dX0_apart_17 hl (by decide) rfl (fun ls hl => ?_)
  refine sk_apart_1 hE hR hlo_d hRc ?_ 16 0 (by decide) (by decide) (cells + 3) (slots + 261) 0 H locs ls (by omega) (by omega) hd (by decide) hS (lv_sub hl [0, 4, 3, 2, 1] rfl)
  intro cells slots H locs sn ls hc1 hc2 hd hsn hS hl
  refine lv_iconst (v := 1) hx hb dX0_apart_37 (by decide) ?_
  refine lv_istore (lv' := [(4, .int 1), (0, .ref b), (1, .ref q), (2, .int f), (3, .int 0)]) hx hb dX0_apart_38 hl (by decide) rfl (fun ls hl => ?_)
  refine sk_apart_2 hE hR hRc ?_ 8193 0 (by decide) (by decide) cells slots H locs ls (by omega) (by omega) hd hS (lv_sub hl [0, 4, 1, 2, 3] rfl)
  intro cells slots H locs ls hc1 hc2 hd hS hl
  have hab := sk_ab_le f (Nat.le_refl 8192)
  refine lv_iload_n hx hb dX0_apart_68 rfl (lv_at hl 0 rfl) ?_
  refine lv_sipush (v := 4096) hx hb dX0_apart_69 (by decide) ?_
  refine lv_icmp_gt (tgt := 89) hx hb dX0_apart_72 (by decide) (fun z => absurd z (nI_nlt (a := 4096) hab (by decide))) (fun _ => ?_)
  refine lv_aload_n hx hb dX0_apart_75 rfl (lv_at hl 2 rfl) ?_
  refine lv_iload_n hx hb dX0_apart_76 rfl (lv_at hl 3 rfl) ?_
  refine sk_W_told hE hl.1 hS hd dX0_apart_77 hR (Nat.le_of_ble_eq_true rfl) ⟨by omega, by omega⟩ (fun H locs hz hk hS => ?_)
  have hd := hd.all hk
  have e15 : sk_tv (sk_it f 15) f = 15 := sk_it_tv f 15
  refine lv_bipush (v := 15) hx hb dX0_apart_80 (by decide) ?_
  refine lv_icmp_ne (tgt := 89) hx hb dX0_apart_82 (by decide) (fun z => absurd (by rw [e15]; rfl) z) (fun _ => ?_)
  refine lv_iconst (v := 1) hx hb dX0_apart_85 (by decide) ?_
  refine lv_goto (tgt := 90) hx hb dX0_apart_86 (by decide) ?_
  exact kk (cells + 1) (slots + 1) H locs ls (by omega) (by omega) hS
end SKA
set_option maxHeartbeats 4000000 in
set_option maxRecDepth 100000 in
/-- apart(s): true -/
theorem sk_c_apart (l : Launch) (dC : Nat → ClassId) (dI : Nat → Nat → Nat) (tc : Nat) (ad : Nat → Nat) (sz b L : Nat) (xs : Nat → Int32) (hL : L ≤ 64) : Met l yX0_apart (ws_ yX0_apart cX0_apart 5 (some .boolean)) ({ frames := 6, cells := 9000, slots := 9000, locals := 110 }) (va_Pc [.ref b] (fun U => U.heap.size = sz ∧ va_K (dC, dI) skCl [] U ∧ sk_E tc ad (fun q => sz ≤ q) U U.heap ∧ va_T .int b L (fun j => .int (xs j)) (fun q => sz ≤ q) U U.heap)) (va_Qi (fun (r : Int32) (_ : Unit) => r = 1) (fun _ _ => True) (fun q => sz ≤ q)) 9000 9000 (fun q => sz ≤ q) := by
  refine Met.ofW (cc := cX0_apart) (maxL := 5) (ret := (some .boolean)) (by decide) rfl ?_
  intro p e s m args below meth c s₁ B hml hv
  obtain ⟨rfl, hsz, hK, hE, hT⟩ := hv
  have hx := B.exec
  have hb := B.bytes
  have hr := B.returns
  have hts := atoms_spec (ws := (ws_ yX0_apart cX0_apart 5 (some .boolean))) B.pre
  have hts : ∀ w ∈ lw_all, w.before _ s = true := fun w h => hts w (List.mem_cons_of_mem _ h)
  have hown : s.vm.findClass RX0 = some m.cls := findClass_of_methodNamed B.named
  have hlocks := B.notSynchronized
  have hS : va_S (fun q => sz ≤ q) s.heap s.heap [] := va_S.rf
  have hl := lv_entry ([.ref b]) (n := 5) (Nat.le_of_ble_eq_true rfl)
  rw [lg_entry_eq]
  generalize (lg_sl ([.ref b]) ++ List.replicate (5 - (lg_sl ([.ref b])).length) Slot.unset).toArray = ls at hl ⊢
  have hl : lv_has ls 5 [(0, .ref b)] := hl
  subst hsz
  have hEn : sk_En p s m _ c cX0_apart 5 dC dI tc ad b L xs := ⟨⟨hx, hb, hml, hown, hts⟩, hK, hE, hT, hL⟩
  refine sk_apart_body hEn ⟨Nat.le_of_ble_eq_true rfl, Nat.le_of_ble_eq_true rfl⟩ ⟨Nat.le_of_ble_eq_true rfl, Nat.le_of_ble_eq_true rfl⟩ rfl rfl hS hl ?_
  intro cells slots H locs ls hc1 hc2 hS
  refine W.widen (k := 9000) (n := 9000) hc1 hc2 ?_
  exact W.zret (v := 1) hx hb hr rfl (fun t ht hW => ⟨⟨1, (), rfl, rfl, trivial⟩, hS.F ht⟩) hS.2.2 dX0_apart_90
end
section
/-! THE LAW's asked: two sketches, the same counts, one is asked in between -/
section SKQ
variable {p : Program} {l : Launch} {e : Env} {R : Room} {s : State} {m : MethodId} {args : Array Value} {below : List Frame} {meth : Method} {c : Code} {Q : State → Prop}
variable {dC : Nat → ClassId} {dI : Nat → Nat → Nat} {tc : Nat} {ad : Nat → Nat} {b L : Nat} {xs : Nat → Int32}
set_option maxHeartbeats 4000000 in
set_option maxRecDepth 100000 in
theorem sk_asked_1 (hE : sk_En p s m args c cX0_asked 6 dC dI tc ad b L xs) (hR : 5 ≤ R.frames ∧ 101 ≤ R.locals) {q1 q2 lo1 hi1 lo2 hi2 : Nat} (hlo_dx : s.heap.size ≤ lo1) (hlo_dy : s.heap.size ≤ lo2) (hap : hi1 ≤ lo2) {g g2 : sk_G} {n1 n2 i M MS : Nat} (hi : i < 64) (hRc : M ≤ R.cells ∧ MS ≤ R.slots)
    (kk : ∀ (cells slots : Nat) (H : Heap) (locs : List Loc) (ls : Array Slot), cells ≤ M → slots ≤ MS → sk_dk (dC, dI) s lo1 hi1 q1 g n1 H → sk_dk (dC, dI) s lo2 hi2 q2 g2 n2 H → va_S (fun q => s.heap.size ≤ q) s.heap H locs → lv_has ls 6 [(3, .int (nI i)), (0, .ref b), (1, .ref q1), (2, .ref q2)] → W p l e R s m args below meth c H locs cells slots Q (F0 m 93 ls [])) :
    ∀ (n j : Nat), j ≤ 3 → 4 ≤ j + n → ∀ (cells slots : Nat) (H : Heap) (locs : List Loc) (ls : Array Slot), cells + 2 * (3 - j) ≤ M → slots + 2 * (3 - j) ≤ MS → sk_dk (dC, dI) s lo1 hi1 q1 g n1 H → sk_dk (dC, dI) s lo2 hi2 q2 g2 n2 H → va_S (fun q => s.heap.size ≤ q) s.heap H locs → lv_has ls 6 [(5, .int (nI j)), (4, .int (nI (sk_tv g (sk_cell L xs i)))), (3, .int (nI i)), (0, .ref b), (1, .ref q1), (2, .ref q2)] → W p l e R s m args below meth c H locs cells slots Q (F0 m 47 ls []) := by
  obtain ⟨hx, hb, hml, hown, hts⟩ := hE.1
  obtain ⟨-, -, -, hT, hL⟩ := id hE
  intro n
  induction n with
  | zero => intro j h1 h2; exact absurd h2 (by omega)
  | succ n ih =>
    intro j hj0 hin cells slots H locs ls hc1 hc2 hdx hdy hS hl
    refine lv_iload hx hb dX0_asked_47 (lv_at hl 0 rfl) ?_
    refine lv_iconst (v := 3) hx hb dX0_asked_49 (by decide) ?_
    refine lv_icmp_ge (tgt := 93) hx hb dX0_asked_50 (by decide) (fun hc => ?_) (fun hc => ?_)
    · exact kk cells slots H locs ls (by omega) (by omega) hdx hdy hS (lv_sub hl [2, 3, 4, 5] rfl)
    · have hlt : j < 3 := Nat.lt_of_not_le (fun z => hc (nI_le z (by omega)))
      refine lv_aload_n hx hb dX0_asked_53 rfl (lv_at hl 4 rfl) ?_
      refine lv_aload_n hx hb dX0_asked_54 rfl (lv_at hl 3 rfl) ?_
      refine lv_iload_n hx hb dX0_asked_55 rfl (lv_at hl 2 rfl) ?_
      refine lv_iload hx hb dX0_asked_56 (lv_at hl 0 rfl) ?_
      refine lv_iadd hx hb dX0_asked_58 ?_
      refine lv_bipush (v := 63) hx hb dX0_asked_59 (by decide) ?_
      have eij : (nI i + nI j) &&& 63 = nI ((i + j) % 2 ^ 6) := by rw [nI_add]; exact pk_andN (by omega) 6 (by decide)
      refine lv_iand hx hb dX0_asked_61 ?_
      rw [eij]
      refine sk_W_cell (k := (i + j) % 2 ^ 6) hE hl.1 hS (Nat.lt_of_lt_of_le (Nat.mod_lt _ (by decide)) (by decide)) dX0_asked_62 hR (Nat.le_of_ble_eq_true rfl) ⟨by omega, by omega⟩ (fun H locs hz hk hS => ?_)
      have hdx := hdx.all hk
      have hdy := hdy.all hk
      refine sk_W_told hE hl.1 hS hdx dX0_asked_65 hR (Nat.le_of_ble_eq_true rfl) ⟨by omega, by omega⟩ (fun H locs hz hk hS => ?_)
      have hdx := hdx.all hk
      have hdy := hdy.all hk
      have hp := sk_tv_15 hdx.g15 (sk_cell L xs ((i + j) % 2 ^ 6))
      refine lv_if_lt (tgt := 85) hx hb dX0_asked_68 (by decide) (fun z => absurd z (nI_pos (by omega))) (fun _ => ?_)
      refine lv_aload_n hx hb dX0_asked_71 rfl (lv_at hl 4 rfl) ?_
      refine lv_aload_n hx hb dX0_asked_72 rfl (lv_at hl 3 rfl) ?_
      refine lv_iload_n hx hb dX0_asked_73 rfl (lv_at hl 2 rfl) ?_
      refine sk_W_cell (k := i) hE hl.1 hS (by omega) dX0_asked_74 hR (Nat.le_of_ble_eq_true rfl) ⟨by omega, by omega⟩ (fun H locs hz hk hS => ?_)
      have hdx := hdx.all hk
      have hdy := hdy.all hk
      refine sk_W_told hE hl.1 hS hdx dX0_asked_77 hR (Nat.le_of_ble_eq_true rfl) ⟨by omega, by omega⟩ (fun H locs hz hk hS => ?_)
      have hdx := hdx.all hk
      have hdy := hdy.all hk
      refine lv_iload hx hb dX0_asked_80 (lv_at hl 1 rfl) ?_
      refine lv_icmp_eq (tgt := 87) hx hb dX0_asked_82 (by decide) (fun _ => ?_) (fun z => absurd rfl z)
      refine lv_iinc (v := nI (j + 1)) (lv' := [(5, .int (nI (j + 1))), (4, .int (nI (sk_tv g (sk_cell L xs i)))), (3, .int (nI i)), (0, .ref b), (1, .ref q1), (2, .ref q2)]) hx hb dX0_asked_87 hl (k := 0) rfl (nI_1 j) (by decide) rfl (fun ls hl => ?_)
      refine lv_goto (tgt := 47) hx hb dX0_asked_90 (by decide) ?_
      exact ih (j + 1) hlt (by omega) (cells + 1 + 1) (slots + 1 + 1) H locs ls (by omega) (by omega) hdx hdy hS (lv_sub hl [0, 1, 2, 3, 4, 5] rfl)
set_option maxHeartbeats 4000000 in
set_option maxRecDepth 100000 in
theorem sk_asked_2 (hE : sk_En p s m args c cX0_asked 6 dC dI tc ad b L xs) (hR : 5 ≤ R.frames ∧ 101 ≤ R.locals) {q1 q2 lo1 hi1 lo2 hi2 : Nat} (hlo_dx : s.heap.size ≤ lo1) (hlo_dy : s.heap.size ≤ lo2) (hap : hi1 ≤ lo2) (hRc : 2000 ≤ R.cells ∧ 4000 ≤ R.slots)
    (kk : ∀ (cells slots : Nat) (H : Heap) (locs : List Loc) (g : sk_G) (n1 n2 : Nat) (ls : Array Slot), cells ≤ 700 → slots ≤ 1300 → sk_dk (dC, dI) s lo1 hi1 q1 g n1 H → sk_dk (dC, dI) s lo2 hi2 q2 g n2 H → va_S (fun q => s.heap.size ≤ q) s.heap H locs → lv_has ls 6 [(0, .ref b), (1, .ref q1), (2, .ref q2)] → W p l e R s m args below meth c H locs cells slots Q (F0 m 108 ls [])) :
    ∀ (n i : Nat), i ≤ 64 → 65 ≤ i + n → ∀ (cells slots : Nat) (H : Heap) (locs : List Loc) (g : sk_G) (n1 n2 : Nat) (ls : Array Slot), cells + 9 * (64 - i) ≤ 700 → slots + 9 * (64 - i) ≤ 1300 → n1 ≤ i → n2 ≤ i → sk_dk (dC, dI) s lo1 hi1 q1 g n1 H → sk_dk (dC, dI) s lo2 hi2 q2 g n2 H → va_S (fun q => s.heap.size ≤ q) s.heap H locs → lv_has ls 6 [(3, .int (nI i)), (0, .ref b), (1, .ref q1), (2, .ref q2)] → W p l e R s m args below meth c H locs cells slots Q (F0 m 18 ls []) := by
  obtain ⟨hx, hb, hml, hown, hts⟩ := hE.1
  obtain ⟨-, -, -, hT, hL⟩ := id hE
  intro n
  induction n with
  | zero => intro i h1 h2; exact absurd h2 (by omega)
  | succ n ih =>
    intro i hi0 hin cells slots H locs g n1 n2 ls hc1 hc2 hn1 hn2 hdx hdy hS hl
    refine lv_iload_n hx hb dX0_asked_18 rfl (lv_at hl 0 rfl) ?_
    refine lv_bipush (v := 64) hx hb dX0_asked_19 (by decide) ?_
    refine lv_icmp_ge (tgt := 108) hx hb dX0_asked_21 (by decide) (fun hc => ?_) (fun hc => ?_)
    · exact kk cells slots H locs g n1 n2 ls (by omega) (by omega) hdx hdy hS (lv_sub hl [1, 2, 3] rfl)
    · have hlt : i < 64 := Nat.lt_of_not_le (fun z => hc (nI_le z (by omega)))
      refine lv_aload_n hx hb dX0_asked_24 rfl (lv_at hl 2 rfl) ?_
      refine lv_aload_n hx hb dX0_asked_25 rfl (lv_at hl 1 rfl) ?_
      refine lv_iload_n hx hb dX0_asked_26 rfl (lv_at hl 0 rfl) ?_
      refine sk_W_cell (k := i) hE hl.1 hS (by omega) dX0_asked_27 hR (Nat.le_of_ble_eq_true rfl) ⟨by omega, by omega⟩ (fun H locs hz hk hS => ?_)
      have hdx := hdx.all hk
      have hdy := hdy.all hk
      refine sk_W_count hE hl.1 hS hdx hlo_dx (by omega) dX0_asked_30 hR (Nat.le_of_ble_eq_true rfl) ⟨by omega, by omega⟩ (fun m1 H locs hm1 hz hk hdx hS => ?_)
      have hdy := hdy.kept (fun z hz1 hz2 hz3 => hk z hz1 (fun hz4 => by omega))
      refine lv_aload_n hx hb dX0_asked_33 rfl (lv_at hl 2 rfl) ?_
      refine lv_aload_n hx hb dX0_asked_34 rfl (lv_at hl 1 rfl) ?_
      refine lv_iload_n hx hb dX0_asked_35 rfl (lv_at hl 0 rfl) ?_
      refine sk_W_cell (k := i) hE hl.1 hS (by omega) dX0_asked_36 hR (Nat.le_of_ble_eq_true rfl) ⟨by omega, by omega⟩ (fun H locs hz hk hS => ?_)
      have hdx := hdx.all hk
      have hdy := hdy.all hk
      refine sk_W_told hE hl.1 hS hdx dX0_asked_39 hR (Nat.le_of_ble_eq_true rfl) ⟨by omega, by omega⟩ (fun H locs hz hk hS => ?_)
      have hdx := hdx.all hk
      have hdy := hdy.all hk
      refine lv_istore (lv' := [(4, .int (nI (sk_tv (sk_inc (sk_cell L xs i) g) (sk_cell L xs i)))), (3, .int (nI i)), (0, .ref b), (1, .ref q1), (2, .ref q2)]) hx hb dX0_asked_42 hl (by decide) rfl (fun ls hl => ?_)
      refine lv_iconst (v := 0) hx hb dX0_asked_44 (by decide) ?_
      refine lv_istore (lv' := [(5, .int 0), (4, .int (nI (sk_tv (sk_inc (sk_cell L xs i) g) (sk_cell L xs i)))), (3, .int (nI i)), (0, .ref b), (1, .ref q1), (2, .ref q2)]) hx hb dX0_asked_45 hl (by decide) rfl (fun ls hl => ?_)
      refine sk_asked_1 (M := cells + 8) (MS := slots + 8) hE hR hlo_dx hlo_dy hap hlt ⟨by omega, by omega⟩ ?_ 4 0 (by decide) (by decide) (cells + 1 + 1) (slots + 1 + 1) H locs ls (by omega) (by omega) hdx hdy hS (lv_sub hl [0, 1, 2, 3, 4, 5] rfl)
      intro cells1 slots1 H locs ls hc3 hc4 hdx hdy hS hl
      refine lv_aload_n hx hb dX0_asked_93 rfl (lv_at hl 3 rfl) ?_
      refine lv_aload_n hx hb dX0_asked_94 rfl (lv_at hl 1 rfl) ?_
      refine lv_iload_n hx hb dX0_asked_95 rfl (lv_at hl 0 rfl) ?_
      refine sk_W_cell (k := i) hE hl.1 hS (by omega) dX0_asked_96 hR (Nat.le_of_ble_eq_true rfl) ⟨by omega, by omega⟩ (fun H locs hz hk hS => ?_)
      have hdx := hdx.all hk
      have hdy := hdy.all hk
      refine sk_W_count hE hl.1 hS hdy hlo_dy (by omega) dX0_asked_99 hR (Nat.le_of_ble_eq_true rfl) ⟨by omega, by omega⟩ (fun m2 H locs hm2 hz hk hdy hS => ?_)
      have hdx := hdx.kept (fun z hz1 hz2 hz3 => hk z hz1 (fun hz4 => by omega))
      refine lv_iinc (v := nI (i + 1)) (lv' := [(3, .int (nI (i + 1))), (0, .ref b), (1, .ref q1), (2, .ref q2)]) hx hb dX0_asked_102 hl (k := 0) rfl (nI_1 i) (by decide) rfl (fun ls hl => ?_)
      refine lv_goto (tgt := 18) hx hb dX0_asked_105 (by decide) ?_
      exact ih (i + 1) hlt (by omega) (cells1 + 1) (slots1 + 1) H locs _ m1 m2 ls (by omega) (by omega) (by omega) (by omega) hdx hdy hS (lv_sub hl [0, 1, 2, 3] rfl)
set_option maxHeartbeats 4000000 in
set_option maxRecDepth 100000 in
theorem sk_asked_3 (hE : sk_En p s m args c cX0_asked 6 dC dI tc ad b L xs) (hR : 5 ≤ R.frames ∧ 101 ≤ R.locals) {q1 q2 lo1 hi1 lo2 hi2 : Nat} (hlo_dx : s.heap.size ≤ lo1) (hlo_dy : s.heap.size ≤ lo2) (hap : hi1 ≤ lo2) {g : sk_G} {n1 n2 : Nat} (hRc : 2000 ≤ R.cells ∧ 4000 ≤ R.slots)
    (kk : ∀ (cells slots : Nat) (H : Heap) (locs : List Loc) (ls : Array Slot), cells ≤ 1000 → slots ≤ 1600 → va_S (fun q => s.heap.size ≤ q) s.heap H locs → lv_has ls 6 [(0, .ref b)] → W p l e R s m args below meth c H locs cells slots Q (F0 m 170 ls [])) :
    ∀ (n i : Nat), i ≤ 64 → 65 ≤ i + n → ∀ (cells slots : Nat) (H : Heap) (locs : List Loc) (ls : Array Slot), cells + 4 * (64 - i) ≤ 1000 → slots + 4 * (64 - i) ≤ 1600 → sk_dk (dC, dI) s lo1 hi1 q1 g n1 H → sk_dk (dC, dI) s lo2 hi2 q2 g n2 H → va_S (fun q => s.heap.size ≤ q) s.heap H locs → lv_has ls 6 [(3, .int (nI i)), (0, .ref b), (1, .ref q1), (2, .ref q2)] → W p l e R s m args below meth c H locs cells slots Q (F0 m 110 ls []) := by
  obtain ⟨hx, hb, hml, hown, hts⟩ := hE.1
  obtain ⟨-, -, -, hT, hL⟩ := id hE
  intro n
  induction n with
  | zero => intro i h1 h2; exact absurd h2 (by omega)
  | succ n ih =>
    intro i hi0 hin cells slots H locs ls hc1 hc2 hdx hdy hS hl
    refine lv_iload_n hx hb dX0_asked_110 rfl (lv_at hl 0 rfl) ?_
    refine lv_bipush (v := 64) hx hb dX0_asked_111 (by decide) ?_
    refine lv_icmp_ge (tgt := 170) hx hb dX0_asked_113 (by decide) (fun hc => ?_) (fun hc => ?_)
    · exact kk cells slots H locs ls (by omega) (by omega) hS (lv_sub hl [1] rfl)
    · have hlt : i < 64 := Nat.lt_of_not_le (fun z => hc (nI_le z (by omega)))
      refine lv_aload_n hx hb dX0_asked_116 rfl (lv_at hl 2 rfl) ?_
      refine lv_aload_n hx hb dX0_asked_117 rfl (lv_at hl 1 rfl) ?_
      refine lv_iload_n hx hb dX0_asked_118 rfl (lv_at hl 0 rfl) ?_
      refine sk_W_cell (k := i) hE hl.1 hS (by omega) dX0_asked_119 hR (Nat.le_of_ble_eq_true rfl) ⟨by omega, by omega⟩ (fun H locs hz hk hS => ?_)
      have hdx := hdx.all hk
      have hdy := hdy.all hk
      refine sk_W_told hE hl.1 hS hdx dX0_asked_122 hR (Nat.le_of_ble_eq_true rfl) ⟨by omega, by omega⟩ (fun H locs hz hk hS => ?_)
      have hdx := hdx.all hk
      have hdy := hdy.all hk
      refine lv_aload_n hx hb dX0_asked_125 rfl (lv_at hl 3 rfl) ?_
      refine lv_aload_n hx hb dX0_asked_126 rfl (lv_at hl 1 rfl) ?_
      refine lv_iload_n hx hb dX0_asked_127 rfl (lv_at hl 0 rfl) ?_
      refine sk_W_cell (k := i) hE hl.1 hS (by omega) dX0_asked_128 hR (Nat.le_of_ble_eq_true rfl) ⟨by omega, by omega⟩ (fun H locs hz hk hS => ?_)
      have hdx := hdx.all hk
      have hdy := hdy.all hk
      refine sk_W_told hE hl.1 hS hdy dX0_asked_131 hR (Nat.le_of_ble_eq_true rfl) ⟨by omega, by omega⟩ (fun H locs hz hk hS => ?_)
      have hdx := hdx.all hk
      have hdy := hdy.all hk
      refine lv_icmp_ne (tgt := 162) hx hb dX0_asked_134 (by decide) (fun z => absurd rfl z) (fun _ => ?_)
      refine lv_aload_n hx hb dX0_asked_137 rfl (lv_at hl 2 rfl) ?_
      refine lv_aload_n hx hb dX0_asked_138 rfl (lv_at hl 1 rfl) ?_
      refine lv_iload_n hx hb dX0_asked_139 rfl (lv_at hl 0 rfl) ?_
      refine sk_W_cell (k := i) hE hl.1 hS (by omega) dX0_asked_140 hR (Nat.le_of_ble_eq_true rfl) ⟨by omega, by omega⟩ (fun H locs hz hk hS => ?_)
      have hdx := hdx.all hk
      have hdy := hdy.all hk
      refine lv_iconst (v := (-1)) hx hb dX0_asked_143 (by decide) ?_
      refine lv_ixor hx hb dX0_asked_144 ?_
      refine sk_W_told hE hl.1 hS hdx dX0_asked_145 hR (Nat.le_of_ble_eq_true rfl) ⟨by omega, by omega⟩ (fun H locs hz hk hS => ?_)
      have hdx := hdx.all hk
      have hdy := hdy.all hk
      refine lv_aload_n hx hb dX0_asked_148 rfl (lv_at hl 3 rfl) ?_
      refine lv_aload_n hx hb dX0_asked_149 rfl (lv_at hl 1 rfl) ?_
      refine lv_iload_n hx hb dX0_asked_150 rfl (lv_at hl 0 rfl) ?_
      refine sk_W_cell (k := i) hE hl.1 hS (by omega) dX0_asked_151 hR (Nat.le_of_ble_eq_true rfl) ⟨by omega, by omega⟩ (fun H locs hz hk hS => ?_)
      have hdx := hdx.all hk
      have hdy := hdy.all hk
      refine lv_iconst (v := (-1)) hx hb dX0_asked_154 (by decide) ?_
      refine lv_ixor hx hb dX0_asked_155 ?_
      refine sk_W_told hE hl.1 hS hdy dX0_asked_156 hR (Nat.le_of_ble_eq_true rfl) ⟨by omega, by omega⟩ (fun H locs hz hk hS => ?_)
      have hdx := hdx.all hk
      have hdy := hdy.all hk
      refine lv_icmp_eq (tgt := 164) hx hb dX0_asked_159 (by decide) (fun _ => ?_) (fun z => absurd rfl z)
      refine lv_iinc (v := nI (i + 1)) (lv' := [(3, .int (nI (i + 1))), (0, .ref b), (1, .ref q1), (2, .ref q2)]) hx hb dX0_asked_164 hl (k := 0) rfl (nI_1 i) (by decide) rfl (fun ls hl => ?_)
      refine lv_goto (tgt := 110) hx hb dX0_asked_167 (by decide) ?_
      exact ih (i + 1) hlt (by omega) (cells + 1 + 1 + 1 + 1) (slots + 1 + 1 + 1 + 1) H locs ls (by omega) (by omega) hdx hdy hS (lv_sub hl [0, 1, 2, 3] rfl)
set_option maxHeartbeats 4000000 in
set_option maxRecDepth 100000 in
theorem sk_asked_body (hE : sk_En p s m args c cX0_asked 6 dC dI tc ad b L xs) (hR : 5 ≤ R.frames ∧ 101 ≤ R.locals) (hRc : 4000 ≤ R.cells ∧ 4000 ≤ R.slots) {cells slots : Nat} {H : Heap} {locs : List Loc} {ls : Array Slot} (hc1 : cells = 0) (hc2 : slots = 0) (hS : va_S (fun q => s.heap.size ≤ q) s.heap H locs) (hl : lv_has ls 6 [(0, .ref b)])
    (kk : ∀ (cells slots : Nat) (H : Heap) (locs : List Loc) (ls : Array Slot), cells ≤ 4000 → slots ≤ 4000 → va_S (fun q => s.heap.size ≤ q) s.heap H locs → W p l e R s m args below meth c H locs cells slots Q (F0 m 193 ls [.int 1])) : W p l e R s m args below meth c H locs cells slots Q (F0 m 0 ls []) := by
  obtain ⟨hx, hb, hml, hown, hts⟩ := hE.1
  obtain ⟨-, -, -, hT, hL⟩ := id hE
  have hlo_dx := hS.1
  refine sk_W_new hE hl.1 hS dX0_asked_0 dX0_asked_3 dX0_asked_4 hR (Nat.le_of_ble_eq_true rfl) ⟨by omega, by omega⟩ (fun q1 Hdx locs hz hk hdx hS => ?_)
  refine lv_astore_n (lv' := [(1, .ref q1), (0, .ref b)]) hx hb dX0_asked_7 rfl hl (by decide) rfl (fun ls hl => ?_)
  have hlo_dy := hS.1
  refine sk_W_new hE hl.1 hS dX0_asked_8 dX0_asked_11 dX0_asked_12 hR (Nat.le_of_ble_eq_true rfl) ⟨by omega, by omega⟩ (fun q2 Hdy locs hz hk hdy hS => ?_)
  have hdx := hdx.all hk
  refine lv_astore_n (lv' := [(2, .ref q2), (1, .ref q1), (0, .ref b)]) hx hb dX0_asked_15 rfl hl (by decide) rfl (fun ls hl => ?_)
  refine lv_iconst (v := 0) hx hb dX0_asked_16 (by decide) ?_
  refine lv_istore_n (lv' := [(3, .int 0), (2, .ref q2), (1, .ref q1), (0, .ref b)]) hx hb dX0_asked_17 rfl hl (by decide) rfl (fun ls hl => ?_)
  refine sk_asked_2 hE hR hlo_dx hlo_dy (Nat.le_refl _) ⟨by omega, by omega⟩ ?_ 65 0 (by decide) (by decide) (cells + 3 + 3) (slots + 261 + 261) Hdy locs sk_zero 0 0 ls (by omega) (by omega) (by decide) (by decide) hdx hdy hS (lv_sub hl [0, 3, 2, 1] rfl)
  intro cells1 slots1 H locs g n1 n2 ls hc3 hc4 hdx hdy hS hl
  refine lv_iconst (v := 0) hx hb dX0_asked_108 (by decide) ?_
  refine lv_istore_n (lv' := [(3, .int 0), (0, .ref b), (1, .ref q1), (2, .ref q2)]) hx hb dX0_asked_109 rfl hl (by decide) rfl (fun ls hl => ?_)
  refine sk_asked_3 hE hR hlo_dx hlo_dy (Nat.le_refl _) ⟨by omega, by omega⟩ ?_ 65 0 (by decide) (by decide) cells1 slots1 H locs ls (by omega) (by omega) hdx hdy hS (lv_sub hl [0, 1, 2, 3] rfl)
  intro cells2 slots2 H locs ls hc5 hc6 hS hl
  have hlo_dz := hS.1
  refine sk_W_new hE hl.1 hS dX0_asked_170 dX0_asked_173 dX0_asked_174 hR (Nat.le_of_ble_eq_true rfl) ⟨by omega, by omega⟩ (fun q3 Hdz locs hz hk hdz hS => ?_)
  refine lv_aload_n hx hb dX0_asked_177 rfl (lv_at hl 0 rfl) ?_
  refine lv_iconst (v := 0) hx hb dX0_asked_178 (by decide) ?_
  refine sk_W_cell (k := 0) hE hl.1 hS (by decide) dX0_asked_179 hR (Nat.le_of_ble_eq_true rfl) ⟨by omega, by omega⟩ (fun H locs hz hk hS => ?_)
  have hdz := hdz.all hk
  refine sk_W_told hE hl.1 hS hdz dX0_asked_182 hR (Nat.le_of_ble_eq_true rfl) ⟨by omega, by omega⟩ (fun H locs hz hk hS => ?_)
  have hdz := hdz.all hk
  have e0 := sk_zero_tv (sk_cell L xs 0)
  refine lv_if_ne (tgt := 192) hx hb dX0_asked_185 (by decide) (fun z => absurd (by rw [e0]; rfl) z) (fun _ => ?_)
  refine lv_iconst (v := 1) hx hb dX0_asked_188 (by decide) ?_
  refine lv_goto (tgt := 193) hx hb dX0_asked_189 (by decide) ?_
  exact kk (cells2 + 3 + 1) (slots2 + 261 + 1) H locs ls (by omega) (by omega) hS
end SKQ
set_option maxHeartbeats 4000000 in
set_option maxRecDepth 100000 in
/-- asked(s): true -/
theorem sk_c_asked (l : Launch) (dC : Nat → ClassId) (dI : Nat → Nat → Nat) (tc : Nat) (ad : Nat → Nat) (sz b L : Nat) (xs : Nat → Int32) (hL : L ≤ 64) : Met l yX0_asked (ws_ yX0_asked cX0_asked 6 (some .boolean)) ({ frames := 6, cells := 4000, slots := 4000, locals := 110 }) (va_Pc [.ref b] (fun U => U.heap.size = sz ∧ va_K (dC, dI) skCl [] U ∧ sk_E tc ad (fun q => sz ≤ q) U U.heap ∧ va_T .int b L (fun j => .int (xs j)) (fun q => sz ≤ q) U U.heap)) (va_Qi (fun (r : Int32) (_ : Unit) => r = 1) (fun _ _ => True) (fun q => sz ≤ q)) 4000 4000 (fun q => sz ≤ q) := by
  refine Met.ofW (cc := cX0_asked) (maxL := 6) (ret := (some .boolean)) (by decide) rfl ?_
  intro p e s m args below meth c s₁ B hml hv
  obtain ⟨rfl, hsz, hK, hE, hT⟩ := hv
  have hx := B.exec
  have hb := B.bytes
  have hr := B.returns
  have hts := atoms_spec (ws := (ws_ yX0_asked cX0_asked 6 (some .boolean))) B.pre
  have hts : ∀ w ∈ lw_all, w.before _ s = true := fun w h => hts w (List.mem_cons_of_mem _ h)
  have hown : s.vm.findClass RX0 = some m.cls := findClass_of_methodNamed B.named
  have hlocks := B.notSynchronized
  have hS : va_S (fun q => sz ≤ q) s.heap s.heap [] := va_S.rf
  have hl := lv_entry ([.ref b]) (n := 6) (Nat.le_of_ble_eq_true rfl)
  rw [lg_entry_eq]
  generalize (lg_sl ([.ref b]) ++ List.replicate (6 - (lg_sl ([.ref b])).length) Slot.unset).toArray = ls at hl ⊢
  have hl : lv_has ls 6 [(0, .ref b)] := hl
  subst hsz
  have hEn : sk_En p s m _ c cX0_asked 6 dC dI tc ad b L xs := ⟨⟨hx, hb, hml, hown, hts⟩, hK, hE, hT, hL⟩
  refine sk_asked_body hEn ⟨Nat.le_of_ble_eq_true rfl, Nat.le_of_ble_eq_true rfl⟩ ⟨Nat.le_of_ble_eq_true rfl, Nat.le_of_ble_eq_true rfl⟩ rfl rfl hS hl ?_
  intro cells slots H locs ls hc1 hc2 hS
  refine W.widen (k := 4000) (n := 4000) hc1 hc2 ?_
  exact W.zret (v := 1) hx hb hr rfl (fun t ht hW => ⟨⟨1, (), rfl, rfl, trivial⟩, hS.F ht⟩) hS.2.2 dX0_asked_193
end
section
/-! THE LAW: its loops, its body -/
section SKZ
variable {p : Program} {l : Launch} {e : Env} {R : Room} {s : State} {m : MethodId} {args : Array Value} {below : List Frame} {meth : Method} {c : Code} {Q : State → Prop}
variable {dC : Nat → ClassId} {dI : Nat → Nat → Nat} {tc : Nat} {ad : Nat → Nat} {b L : Nat} {xs : Nat → Int32}
set_option maxHeartbeats 4000000 in
set_option maxRecDepth 100000 in
theorem sk_law_1 (hE : sk_En p s m args c cL_law 9 dC dI tc ad b L xs) (hR : 5 ≤ R.frames ∧ 101 ≤ R.locals) {q1 q2 lo1 hi1 lo2 hi2 : Nat} (hlo_df : s.heap.size ≤ lo2) (hap : hi1 ≤ lo2) {f : Int32} {n1 : Nat} (hRc : 2000 ≤ R.cells ∧ 4000 ≤ R.slots)
    (kk : ∀ (cells slots : Nat) (H : Heap) (locs : List Loc) (ls : Array Slot), cells ≤ 50 → slots ≤ 600 → sk_dk (dC, dI) s lo1 hi1 q1 sk_zero n1 H → va_S (fun q => s.heap.size ≤ q) s.heap H locs → lv_has ls 9 [(0, .ref b), (1, .ref q1), (2, .ref q2), (3, .int f)] → W p l e R s m args below meth c H locs cells slots Q (F0 m 94 ls [])) :
    ∀ (n j : Nat), j ≤ 16 → 17 ≤ j + n → ∀ (cells slots sn : Nat) (H : Heap) (locs : List Loc) (ls : Array Slot), cells + 2 * (16 - j) ≤ 50 → slots + 2 * (16 - j) ≤ 600 → sk_dk (dC, dI) s lo1 hi1 q1 sk_zero n1 H → sk_dk (dC, dI) s lo2 hi2 q2 (sk_it f j) sn H → sn ≤ j → va_S (fun q => s.heap.size ≤ q) s.heap H locs → lv_has ls 9 [(4, .int (nI (j + 1))), (0, .ref b), (1, .ref q1), (2, .ref q2), (3, .int f)] → W p l e R s m args below meth c H locs cells slots Q (F0 m 52 ls []) := by
  obtain ⟨hx, hb, hml, hown, hts⟩ := hE.1
  obtain ⟨-, -, -, hT, hL⟩ := id hE
  intro n
  induction n with
  | zero => intro j h1 h2; exact absurd h2 (by omega)
  | succ n ih =>
    intro j hj0 hin cells slots sn H locs ls hc1 hc2 hdx hdf hsn0 hS hl
    refine lv_iload hx hb dL_law_52 (lv_at hl 0 rfl) ?_
    refine lv_bipush (v := 16) hx hb dL_law_54 (by decide) ?_
    refine lv_icmp_gt (tgt := 94) hx hb dL_law_56 (by decide) (fun hc => ?_) (fun hc => ?_)
    · exact kk cells slots H locs ls (by omega) (by omega) hdx hS (lv_sub hl [1, 2, 3, 4] rfl)
    · have hlt : j < 16 := Nat.lt_of_not_le (fun z => hc (nI_lt (a := 16) (b := j + 1) (by omega) (by omega)))
      refine lv_aload_n hx hb dL_law_59 rfl (lv_at hl 3 rfl) ?_
      refine lv_iload_n hx hb dL_law_60 rfl (lv_at hl 4 rfl) ?_
      refine sk_W_count hE hl.1 hS hdf hlo_df (by omega) dL_law_61 hR (Nat.le_of_ble_eq_true rfl) ⟨by omega, by omega⟩ (fun sn1 H locs hsn hz hk hdf hS => ?_)
      have hdx := hdx.kept (fun z hz1 hz2 hz3 => hk z hz1 (fun hz4 => by omega))
      have hdf : sk_dk (dC, dI) s lo2 hi2 q2 (sk_it f (j + 1)) sn1 H := hdf
      refine lv_aload_n hx hb dL_law_64 rfl (lv_at hl 3 rfl) ?_
      refine lv_iload_n hx hb dL_law_65 rfl (lv_at hl 4 rfl) ?_
      refine sk_W_told hE hl.1 hS hdf dL_law_66 hR (Nat.le_of_ble_eq_true rfl) ⟨by omega, by omega⟩ (fun H locs hz hk hS => ?_)
      have hdx := hdx.all hk
      have hdf := hdf.all hk
      have etv := sk_it_tv f (j + 1)
      refine lv_iload hx hb dL_law_69 (lv_at hl 0 rfl) ?_
      refine lv_bipush (v := 15) hx hb dL_law_71 (by decide) ?_
      refine lv_icmp_ge (tgt := 81) hx hb dL_law_73 (by decide) (fun hc2 => ?_) (fun hc2 => ?_)
      · have h15 : ¬ j + 1 < 15 := fun z => nI_ge (a := j + 1) (b := 15) z (by decide) hc2
        rw [if_neg h15] at etv
        refine lv_bipush (v := 15) hx hb dL_law_81 (by decide) ?_
        refine lv_icmp_eq (tgt := 88) hx hb dL_law_83 (by decide) (fun _ => ?_) (fun z => absurd (by rw [etv]; rfl) z)
        refine lv_iinc (v := nI (j + 1 + 1)) (lv' := [(4, .int (nI (j + 1 + 1))), (0, .ref b), (1, .ref q1), (2, .ref q2), (3, .int f)]) hx hb dL_law_88 hl (k := 0) rfl (nI_1 (j + 1)) (by decide) rfl (fun ls hl => ?_)
        refine lv_goto (tgt := 52) hx hb dL_law_91 (by decide) ?_
        exact ih (j + 1) hlt (by omega) (cells + 1 + 1) (slots + 1 + 1) sn1 H locs ls (by omega) (by omega) hdx hdf (by omega) hS (lv_sub hl [0, 1, 2, 3, 4] rfl)
      · have h15 : j + 1 < 15 := Nat.lt_of_not_le (fun z => hc2 (nI_le (a := 15) (b := j + 1) z (by omega)))
        rw [if_pos h15] at etv
        refine lv_iload hx hb dL_law_76 (lv_at hl 0 rfl) ?_
        refine lv_goto (tgt := 83) hx hb dL_law_78 (by decide) ?_
        refine lv_icmp_eq (tgt := 88) hx hb dL_law_83 (by decide) (fun _ => ?_) (fun z => absurd (by rw [etv]) z)
        refine lv_iinc (v := nI (j + 1 + 1)) (lv' := [(4, .int (nI (j + 1 + 1))), (0, .ref b), (1, .ref q1), (2, .ref q2), (3, .int f)]) hx hb dL_law_88 hl (k := 0) rfl (nI_1 (j + 1)) (by decide) rfl (fun ls hl => ?_)
        refine lv_goto (tgt := 52) hx hb dL_law_91 (by decide) ?_
        exact ih (j + 1) hlt (by omega) (cells + 1 + 1) (slots + 1 + 1) sn1 H locs ls (by omega) (by omega) hdx hdf (by omega) hS (lv_sub hl [0, 1, 2, 3, 4] rfl)
set_option maxHeartbeats 4000000 in
set_option maxRecDepth 100000 in
theorem sk_law_2 (hE : sk_En p s m args c cL_law 9 dC dI tc ad b L xs) (hR : 5 ≤ R.frames ∧ 101 ≤ R.locals) {q1 lo1 hi1 : Nat} (hlo_dx : s.heap.size ≤ lo1) (hRc : 2000 ≤ R.cells ∧ 4000 ≤ R.slots)
    (kk : ∀ (cells slots : Nat) (H : Heap) (locs : List Loc) (g : sk_G) (n1 : Nat) (ls : Array Slot), cells ≤ 500 → slots ≤ 1100 → sk_dk (dC, dI) s lo1 hi1 q1 g n1 H → sk_lo g xs L → va_S (fun q => s.heap.size ≤ q) s.heap H locs → lv_has ls 9 [(4, .int (nI L)), (0, .ref b), (1, .ref q1)] → W p l e R s m args below meth c H locs cells slots Q (F0 m 192 ls [])) :
    ∀ (n i : Nat), i ≤ L → L + 1 ≤ i + n → ∀ (cells slots : Nat) (H : Heap) (locs : List Loc) (g : sk_G) (n1 : Nat) (ls : Array Slot), cells + 5 * (L - i) ≤ 500 → slots + 5 * (L - i) ≤ 1100 → n1 ≤ i → sk_dk (dC, dI) s lo1 hi1 q1 g n1 H → sk_lo g xs i → va_S (fun q => s.heap.size ≤ q) s.heap H locs → lv_has ls 9 [(5, .int (nI i)), (4, .int (nI L)), (0, .ref b), (1, .ref q1)] → W p l e R s m args below meth c H locs cells slots Q (F0 m 113 ls []) := by
  obtain ⟨hx, hb, hml, hown, hts⟩ := hE.1
  obtain ⟨-, -, -, hT, hL⟩ := id hE
  intro n
  induction n with
  | zero => intro i h1 h2; exact absurd h2 (by omega)
  | succ n ih =>
    intro i hi0 hin cells slots H locs g n1 ls hc1 hc2 hn1 hdx hlo hS hl
    refine lv_iload hx hb dL_law_113 (lv_at hl 0 rfl) ?_
    refine lv_iload hx hb dL_law_115 (lv_at hl 1 rfl) ?_
    refine lv_icmp_ge (tgt := 192) hx hb dL_law_117 (by decide) (fun hc => ?_) (fun hc => ?_)
    · have hi4 : i = L := by
        rcases Nat.lt_or_ge i L with z | z
        · exact absurd hc (nI_ge z (by omega))
        · omega
      subst hi4
      exact kk cells slots H locs g n1 ls (by omega) (by omega) hdx hlo hS (lv_sub hl [1, 2, 3] rfl)
    · have hlt : i < L := Nat.lt_of_not_le (fun z => hc (nI_le z (by omega)))
      have hL0 : 0 < L := Nat.lt_of_le_of_lt (Nat.zero_le i) hlt
      refine lv_aload_n hx hb dL_law_120 rfl (lv_at hl 2 rfl) ?_
      refine lv_iload hx hb dL_law_121 (lv_at hl 0 rfl) ?_
      refine lv_bipush (v := 7) hx hb dL_law_123 (by decide) ?_
      refine lv_imul hx hb dL_law_125 ?_
      refine lv_iconst (v := 3) hx hb dL_law_126 (by decide) ?_
      refine lv_iadd hx hb dL_law_127 ?_
      refine lv_iload hx hb dL_law_128 (lv_at hl 1 rfl) ?_
      have e73 : nI i * 7 + 3 = nI (i * 7 + 3) := by
        show nI i * nI 7 + nI 3 = _
        rw [pk_mul, nI_add]
      rw [e73]
      refine lv_irem hx hb dL_law_130 (nI_ne0 hL0 (by omega)) ?_
      rw [pk_rem (a := i * 7 + 3) (d := L) (by omega) hL0 (by omega)]
      have hot : (i * 7 + 3) % L < L := Nat.mod_lt _ hL0
      refine va_ti (v := .int (xs ((i * 7 + 3) % L))) hx hb hT hS (vp_in_nI hot (by omega)) (by rw [nI_clamp (by omega)]) dL_law_131 ?_
      generalize hoe : xs ((i * 7 + 3) % L) = o
      refine lv_istore (lv' := [(6, .int o), (5, .int (nI i)), (4, .int (nI L)), (0, .ref b), (1, .ref q1)]) hx hb dL_law_132 hl (by decide) rfl (fun ls hl => ?_)
      refine lv_aload_n hx hb dL_law_134 rfl (lv_at hl 4 rfl) ?_
      refine lv_iload hx hb dL_law_135 (lv_at hl 0 rfl) ?_
      refine sk_W_told hE hl.1 hS hdx dL_law_137 hR (Nat.le_of_ble_eq_true rfl) ⟨by omega, by omega⟩ (fun H locs hz hk hS => ?_)
      have hdx := hdx.all hk
      refine lv_istore (lv' := [(7, .int (nI (sk_tv g o))), (6, .int o), (5, .int (nI i)), (4, .int (nI L)), (0, .ref b), (1, .ref q1)]) hx hb dL_law_140 hl (by decide) rfl (fun ls hl => ?_)
      refine lv_aload_n hx hb dL_law_142 rfl (lv_at hl 5 rfl) ?_
      refine lv_aload_n hx hb dL_law_143 rfl (lv_at hl 4 rfl) ?_
      refine lv_iload hx hb dL_law_144 (lv_at hl 2 rfl) ?_
      refine va_ti (v := .int (xs i)) hx hb hT hS (vp_in_nI hlt (by omega)) (by rw [nI_clamp (by omega)]) dL_law_146 ?_
      refine sk_W_told hE hl.1 hS hdx dL_law_147 hR (Nat.le_of_ble_eq_true rfl) ⟨by omega, by omega⟩ (fun H locs hz hk hS => ?_)
      have hdx := hdx.all hk
      refine lv_istore (lv' := [(8, .int (nI (sk_tv g (xs i)))), (7, .int (nI (sk_tv g o))), (6, .int o), (5, .int (nI i)), (4, .int (nI L)), (0, .ref b), (1, .ref q1)]) hx hb dL_law_150 hl (by decide) rfl (fun ls hl => ?_)
      refine lv_aload_n hx hb dL_law_152 rfl (lv_at hl 6 rfl) ?_
      refine lv_aload_n hx hb dL_law_153 rfl (lv_at hl 5 rfl) ?_
      refine lv_iload hx hb dL_law_154 (lv_at hl 3 rfl) ?_
      refine va_ti (v := .int (xs i)) hx hb hT hS (vp_in_nI hlt (by omega)) (by rw [nI_clamp (by omega)]) dL_law_156 ?_
      have hmo : ∀ v, sk_tv g v ≤ sk_tv (sk_inc (xs i) g) v := fun v => sk_tv_mono (fun s j _ => sk_inc_le (xs i) g s j) v
      refine sk_W_count hE hl.1 hS hdx hlo_dx (by omega) dL_law_157 hR (Nat.le_of_ble_eq_true rfl) ⟨by omega, by omega⟩ (fun m1 H locs hm1 hz hk hdx hS => ?_)
      have h15 := fun v => sk_tv_15 hdx.g15 v
      have ho15 := h15 o
      have hk15 := h15 (xs i)
      refine lv_aload_n hx hb dL_law_160 rfl (lv_at hl 6 rfl) ?_
      refine lv_iload hx hb dL_law_161 (lv_at hl 2 rfl) ?_
      refine sk_W_told hE hl.1 hS hdx dL_law_163 hR (Nat.le_of_ble_eq_true rfl) ⟨by omega, by omega⟩ (fun H locs hz hk hS => ?_)
      have hdx := hdx.all hk
      refine lv_iload hx hb dL_law_166 (lv_at hl 1 rfl) ?_
      refine lv_icmp_lt (tgt := 184) hx hb dL_law_168 (by decide) (fun z => absurd z (nI_nlt (hmo o) (by omega))) (fun _ => ?_)
      refine lv_aload_n hx hb dL_law_171 rfl (lv_at hl 6 rfl) ?_
      refine lv_aload_n hx hb dL_law_172 rfl (lv_at hl 5 rfl) ?_
      refine lv_iload hx hb dL_law_173 (lv_at hl 3 rfl) ?_
      refine va_ti (v := .int (xs i)) hx hb hT hS (vp_in_nI hlt (by omega)) (by rw [nI_clamp (by omega)]) dL_law_175 ?_
      refine sk_W_told hE hl.1 hS hdx dL_law_176 hR (Nat.le_of_ble_eq_true rfl) ⟨by omega, by omega⟩ (fun H locs hz hk hS => ?_)
      have hdx := hdx.all hk
      refine lv_iload hx hb dL_law_179 (lv_at hl 0 rfl) ?_
      refine lv_icmp_ge (tgt := 186) hx hb dL_law_181 (by decide) (fun _ => ?_) (fun z => absurd (nI_le (hmo (xs i)) (by omega)) z)
      refine lv_iinc (v := nI (i + 1)) (lv' := [(5, .int (nI (i + 1))), (8, .int (nI (sk_tv g (xs i)))), (7, .int (nI (sk_tv g o))), (6, .int o), (4, .int (nI L)), (0, .ref b), (1, .ref q1)]) hx hb dL_law_186 hl (k := 3) rfl (nI_1 i) (by decide) rfl (fun ls hl => ?_)
      refine lv_goto (tgt := 113) hx hb dL_law_189 (by decide) ?_
      exact ih (i + 1) hlt (by omega) (cells + 1 + 1 + 1 + 1 + 1) (slots + 1 + 1 + 1 + 1 + 1) H locs (sk_inc (xs i) g) m1 ls (by omega) (by omega) (by omega) hdx (sk_lo_s hlo) hS (lv_sub hl [0, 4, 5, 6] rfl)
set_option maxHeartbeats 4000000 in
set_option maxRecDepth 100000 in
theorem sk_law_4 (hE : sk_En p s m args c cL_law 9 dC dI tc ad b L xs) (hR : 5 ≤ R.frames ∧ 101 ≤ R.locals) {q1 i cells slots : Nat} {v7 : Int32} {H : Heap} {locs : List Loc} (hiL : i < L) (hS : va_S (fun q => s.heap.size ≤ q) s.heap H locs)
    (kk : ∀ (ls : Array Slot), lv_has ls 9 [(6, .int (nI (sk_ct xs (xs i) L))), (7, .int v7), (5, .int (nI i)), (4, .int (nI L)), (0, .ref b), (1, .ref q1)] → W p l e R s m args below meth c H locs cells slots Q (F0 m 245 ls [])) :
    ∀ (n j : Nat), j ≤ L → L + 1 ≤ j + n → ∀ (ls : Array Slot), lv_has ls 9 [(8, .int (nI j)), (6, .int (nI (sk_ct xs (xs i) j))), (7, .int v7), (5, .int (nI i)), (4, .int (nI L)), (0, .ref b), (1, .ref q1)] → W p l e R s m args below meth c H locs cells slots Q (F0 m 218 ls []) := by
  obtain ⟨hx, hb, hml, hown, hts⟩ := hE.1
  obtain ⟨-, -, -, hT, hL⟩ := id hE
  intro n
  induction n with
  | zero => intro j h1 h2; exact absurd h2 (by omega)
  | succ n ih =>
    intro j hj0 hin ls hl
    refine lv_iload hx hb dL_law_218 (lv_at hl 0 rfl) ?_
    refine lv_iload hx hb dL_law_220 (lv_at hl 4 rfl) ?_
    refine lv_icmp_ge (tgt := 245) hx hb dL_law_222 (by decide) (fun hc => ?_) (fun hc => ?_)
    · have hi4 : j = L := by
        rcases Nat.lt_or_ge j L with z | z
        · exact absurd hc (nI_ge z (by omega))
        · omega
      subst hi4
      exact kk ls (lv_sub hl [1, 2, 3, 4, 5, 6] rfl)
    · have hlt : j < L := Nat.lt_of_not_le (fun z => hc (nI_le z (by omega)))
      refine lv_aload_n hx hb dL_law_225 rfl (lv_at hl 5 rfl) ?_
      refine lv_iload hx hb dL_law_226 (lv_at hl 0 rfl) ?_
      refine va_ti (v := .int (xs j)) hx hb hT hS (vp_in_nI hlt (by omega)) (by rw [nI_clamp (by omega)]) dL_law_228 ?_
      refine lv_aload_n hx hb dL_law_229 rfl (lv_at hl 5 rfl) ?_
      refine lv_iload hx hb dL_law_230 (lv_at hl 3 rfl) ?_
      refine va_ti (v := .int (xs i)) hx hb hT hS (vp_in_nI hiL (by omega)) (by rw [nI_clamp (by omega)]) dL_law_232 ?_
      refine lv_icmp_ne (tgt := 239) hx hb dL_law_233 (by decide) (fun hv => ?_) (fun hv => ?_)
      · have e1 : sk_ct xs (xs i) (j + 1) = sk_ct xs (xs i) j := if_neg hv
        refine lv_iinc (v := nI (j + 1)) (lv' := [(8, .int (nI (j + 1))), (6, .int (nI (sk_ct xs (xs i) j))), (7, .int v7), (5, .int (nI i)), (4, .int (nI L)), (0, .ref b), (1, .ref q1)]) hx hb dL_law_239 hl (k := 0) rfl (nI_1 j) (by decide) rfl (fun ls hl => ?_)
        refine lv_goto (tgt := 218) hx hb dL_law_242 (by decide) ?_
        exact ih (j + 1) hlt (by omega) ls (by rw [e1]; exact (lv_sub hl [0, 1, 2, 3, 4, 5, 6] rfl))
      · have e1 : sk_ct xs (xs i) (j + 1) = sk_ct xs (xs i) j + 1 := if_pos hv
        refine lv_iinc (v := nI (sk_ct xs (xs i) j + 1)) (lv' := [(6, .int (nI (sk_ct xs (xs i) j + 1))), (8, .int (nI j)), (7, .int v7), (5, .int (nI i)), (4, .int (nI L)), (0, .ref b), (1, .ref q1)]) hx hb dL_law_236 hl (k := 1) rfl (nI_1 (sk_ct xs (xs i) j)) (by decide) rfl (fun ls hl => ?_)
        refine lv_iinc (v := nI (j + 1)) (lv' := [(8, .int (nI (j + 1))), (6, .int (nI (sk_ct xs (xs i) j + 1))), (7, .int v7), (5, .int (nI i)), (4, .int (nI L)), (0, .ref b), (1, .ref q1)]) hx hb dL_law_239 hl (k := 1) rfl (nI_1 j) (by decide) rfl (fun ls hl => ?_)
        refine lv_goto (tgt := 218) hx hb dL_law_242 (by decide) ?_
        exact ih (j + 1) hlt (by omega) ls (by rw [e1]; exact (lv_sub hl [0, 1, 2, 3, 4, 5, 6] rfl))
set_option maxHeartbeats 4000000 in
set_option maxRecDepth 100000 in
theorem sk_law_3 (hE : sk_En p s m args c cL_law 9 dC dI tc ad b L xs) (hR : 5 ≤ R.frames ∧ 101 ≤ R.locals) {q1 lo1 hi1 : Nat} (hlo_dx : s.heap.size ≤ lo1) {g : sk_G} {n1 : Nat} (hlo : sk_lo g xs L) (hRc : 2000 ≤ R.cells ∧ 4000 ≤ R.slots)
    (kk : ∀ (cells slots : Nat) (H : Heap) (locs : List Loc) (ls : Array Slot), cells ≤ 1000 → slots ≤ 1600 → va_S (fun q => s.heap.size ≤ q) s.heap H locs → lv_has ls 9 [(0, .ref b), (1, .ref q1)] → W p l e R s m args below meth c H locs cells slots Q (F0 m 309 ls [])) :
    ∀ (n i : Nat), i ≤ L → L + 1 ≤ i + n → ∀ (cells slots : Nat) (H : Heap) (locs : List Loc) (ls : Array Slot), cells + 3 * (L - i) ≤ 1000 → slots + 3 * (L - i) ≤ 1600 → sk_dk (dC, dI) s lo1 hi1 q1 g n1 H → va_S (fun q => s.heap.size ≤ q) s.heap H locs → lv_has ls 9 [(5, .int (nI i)), (4, .int (nI L)), (0, .ref b), (1, .ref q1)] → W p l e R s m args below meth c H locs cells slots Q (F0 m 195 ls []) := by
  obtain ⟨hx, hb, hml, hown, hts⟩ := hE.1
  obtain ⟨-, -, -, hT, hL⟩ := id hE
  intro n
  induction n with
  | zero => intro i h1 h2; exact absurd h2 (by omega)
  | succ n ih =>
    intro i hi0 hin cells slots H locs ls hc1 hc2 hdx hS hl
    refine lv_iload hx hb dL_law_195 (lv_at hl 0 rfl) ?_
    refine lv_iload hx hb dL_law_197 (lv_at hl 1 rfl) ?_
    refine lv_icmp_ge (tgt := 309) hx hb dL_law_199 (by decide) (fun hc => ?_) (fun hc => ?_)
    · exact kk cells slots H locs ls (by omega) (by omega) hS (lv_sub hl [2, 3] rfl)
    · have hlt : i < L := Nat.lt_of_not_le (fun z => hc (nI_le z (by omega)))
      have hct := sk_ct_le xs (xs i) L
      refine lv_iconst (v := 0) hx hb dL_law_202 (by decide) ?_
      refine lv_istore (lv' := [(6, .int 0), (5, .int (nI i)), (4, .int (nI L)), (0, .ref b), (1, .ref q1)]) hx hb dL_law_203 hl (by decide) rfl (fun ls hl => ?_)
      refine lv_aload_n hx hb dL_law_205 rfl (lv_at hl 4 rfl) ?_
      refine lv_aload_n hx hb dL_law_206 rfl (lv_at hl 3 rfl) ?_
      refine lv_iload hx hb dL_law_207 (lv_at hl 1 rfl) ?_
      refine va_ti (v := .int (xs i)) hx hb hT hS (vp_in_nI hlt (by omega)) (by rw [nI_clamp (by omega)]) dL_law_209 ?_
      refine sk_W_told hE hl.1 hS hdx dL_law_210 hR (Nat.le_of_ble_eq_true rfl) ⟨by omega, by omega⟩ (fun H locs hz hk hS => ?_)
      have hdx := hdx.all hk
      have h15 := fun v => sk_tv_15 hdx.g15 v
      have hk15 := h15 (xs i)
      have hn15 := h15 (xs i ^^^ (-1))
      have hlow := sk_lo_tv hlo (xs i)
      refine lv_istore (lv' := [(7, .int (nI (sk_tv g (xs i)))), (6, .int 0), (5, .int (nI i)), (4, .int (nI L)), (0, .ref b), (1, .ref q1)]) hx hb dL_law_213 hl (by decide) rfl (fun ls hl => ?_)
      refine lv_iconst (v := 0) hx hb dL_law_215 (by decide) ?_
      refine lv_istore (lv' := [(8, .int 0), (7, .int (nI (sk_tv g (xs i)))), (6, .int 0), (5, .int (nI i)), (4, .int (nI L)), (0, .ref b), (1, .ref q1)]) hx hb dL_law_216 hl (by decide) rfl (fun ls hl => ?_)
      refine sk_law_4 hE hR hlt hS ?_ (L + 1) 0 (Nat.zero_le L) (by omega) ls (lv_sub hl [0, 2, 1, 3, 4, 5, 6] rfl)
      intro ls hl
      have K : ∀ (ls : Array Slot), lv_has ls 9 [(5, .int (nI i)), (4, .int (nI L)), (0, .ref b), (1, .ref q1)] → W p l e R s m args below meth c H locs (cells + 1) (slots + 1) Q (F0 m 273 ls []) := by
        intro ls hl
        refine lv_aload_n hx hb dL_law_273 rfl (lv_at hl 3 rfl) ?_
        refine lv_aload_n hx hb dL_law_274 rfl (lv_at hl 2 rfl) ?_
        refine lv_iload hx hb dL_law_275 (lv_at hl 0 rfl) ?_
        refine va_ti (v := .int (xs i)) hx hb hT hS (vp_in_nI hlt (by omega)) (by rw [nI_clamp (by omega)]) dL_law_277 ?_
        refine lv_iconst (v := (-1)) hx hb dL_law_278 (by decide) ?_
        refine lv_ixor hx hb dL_law_279 ?_
        refine sk_W_told hE hl.1 hS hdx dL_law_280 hR (Nat.le_of_ble_eq_true rfl) ⟨by omega, by omega⟩ (fun H locs hz hk hS => ?_)
        have hdx := hdx.all hk
        refine lv_if_lt (tgt := 301) hx hb dL_law_283 (by decide) (fun z => absurd z (nI_pos (by omega))) (fun _ => ?_)
        refine lv_aload_n hx hb dL_law_286 rfl (lv_at hl 3 rfl) ?_
        refine lv_aload_n hx hb dL_law_287 rfl (lv_at hl 2 rfl) ?_
        refine lv_iload hx hb dL_law_288 (lv_at hl 0 rfl) ?_
        refine va_ti (v := .int (xs i)) hx hb hT hS (vp_in_nI hlt (by omega)) (by rw [nI_clamp (by omega)]) dL_law_290 ?_
        refine lv_iconst (v := (-1)) hx hb dL_law_291 (by decide) ?_
        refine lv_ixor hx hb dL_law_292 ?_
        refine sk_W_told hE hl.1 hS hdx dL_law_293 hR (Nat.le_of_ble_eq_true rfl) ⟨by omega, by omega⟩ (fun H locs hz hk hS => ?_)
        have hdx := hdx.all hk
        refine lv_bipush (v := 15) hx hb dL_law_296 (by decide) ?_
        refine lv_icmp_le (tgt := 303) hx hb dL_law_298 (by decide) (fun _ => ?_) (fun z => absurd (nI_le (b := 15) hn15 (by decide)) z)
        refine lv_iinc (v := nI (i + 1)) (lv' := [(5, .int (nI (i + 1))), (4, .int (nI L)), (0, .ref b), (1, .ref q1)]) hx hb dL_law_303 hl (k := 0) rfl (nI_1 i) (by decide) rfl (fun ls hl => ?_)
        refine lv_goto (tgt := 195) hx hb dL_law_306 (by decide) ?_
        exact ih (i + 1) hlt (by omega) (cells + 1 + 1 + 1) (slots + 1 + 1 + 1) H locs ls (by omega) (by omega) hdx hS (lv_sub hl [0, 1, 2, 3] rfl)
      refine lv_iload hx hb dL_law_245 (lv_at hl 1 rfl) ?_
      refine lv_bipush (v := 15) hx hb dL_law_247 (by decide) ?_
      refine lv_icmp_gt (tgt := 271) hx hb dL_law_249 (by decide) (fun z => absurd z (nI_nlt (a := 15) hk15 (by decide))) (fun _ => ?_)
      refine lv_iload hx hb dL_law_252 (lv_at hl 1 rfl) ?_
      refine lv_iload hx hb dL_law_254 (lv_at hl 0 rfl) ?_
      refine lv_bipush (v := 15) hx hb dL_law_256 (by decide) ?_
      refine lv_icmp_ge (tgt := 266) hx hb dL_law_258 (by decide) (fun hc2 => ?_) (fun hc2 => ?_)
      · have h15c : ¬ sk_ct xs (xs i) L < 15 := fun z => nI_ge (b := 15) z (by decide) hc2
        rw [if_neg h15c] at hlow
        refine lv_bipush (v := 15) hx hb dL_law_266 (by decide) ?_
        refine lv_icmp_ge (tgt := 273) hx hb dL_law_268 (by decide) (fun _ => ?_) (fun z => absurd (nI_le (a := 15) hlow (by omega)) z)
        exact K ls (lv_sub hl [2, 3, 4, 5] rfl)
      · have h15c : sk_ct xs (xs i) L < 15 := Nat.lt_of_not_le (fun z => hc2 (nI_le (a := 15) z (by omega)))
        rw [if_pos h15c] at hlow
        refine lv_iload hx hb dL_law_261 (lv_at hl 0 rfl) ?_
        refine lv_goto (tgt := 268) hx hb dL_law_263 (by decide) ?_
        refine lv_icmp_ge (tgt := 273) hx hb dL_law_268 (by decide) (fun _ => ?_) (fun z => absurd (nI_le hlow (by omega)) z)
        exact K ls (lv_sub hl [2, 3, 4, 5] rfl)
set_option maxHeartbeats 4000000 in
set_option maxRecDepth 100000 in
theorem sk_law_body (hE : sk_En p s m args c cL_law 9 dC dI tc ad b L xs) (hR : 7 ≤ R.frames ∧ 135 ≤ R.locals) (hRc : 100000 ≤ R.cells ∧ 100000 ≤ R.slots) {cells slots : Nat} {H : Heap} {locs : List Loc} {ls : Array Slot} (hc1 : cells = 0) (hc2 : slots = 0) (hS : va_S (fun q => s.heap.size ≤ q) s.heap H locs) (hl : lv_has ls 9 [(0, .ref b)])
    (kk : ∀ (cells slots : Nat) (H : Heap) (locs : List Loc) (ls : Array Slot), cells ≤ 100000 → slots ≤ 100000 → va_S (fun q => s.heap.size ≤ q) s.heap H locs → W p l e R s m args below meth c H locs cells slots Q (F0 m 328 ls [.int 1])) : W p l e R s m args below meth c H locs cells slots Q (F0 m 0 ls []) := by
  obtain ⟨hx, hb, hml, hown, hts⟩ := hE.1
  obtain ⟨-, -, -, hT, hL⟩ := id hE
  obtain ⟨-, hK, hEc, -, -⟩ := id hE
  have hR5 : 5 ≤ R.frames ∧ 101 ≤ R.locals := ⟨by omega, by omega⟩
  have hlo_dx := hS.1
  refine sk_W_new hE hl.1 hS dL_law_0 dL_law_3 dL_law_4 hR5 (Nat.le_of_ble_eq_true rfl) ⟨by omega, by omega⟩ (fun qa Hdx locs hz hk hdx hS => ?_)
  refine lv_astore_n (lv' := [(1, .ref qa), (0, .ref b)]) hx hb dL_law_7 rfl hl (by decide) rfl (fun ls hl => ?_)
  have hlo_df := hS.1
  refine sk_W_new hE hl.1 hS dL_law_8 dL_law_11 dL_law_12 hR5 (Nat.le_of_ble_eq_true rfl) ⟨by omega, by omega⟩ (fun qb Hdf locs hz hk hdf hS => ?_)
  have hdx := hdx.all hk
  refine lv_astore_n (lv' := [(2, .ref qb), (1, .ref qa), (0, .ref b)]) hx hb dL_law_15 rfl hl (by decide) rfl (fun ls hl => ?_)
  have K : ∀ (f : Int32) (ls : Array Slot), lv_has ls 9 [(2, .ref qb), (1, .ref qa), (0, .ref b)] → W p l e R s m args below meth c Hdf locs (cells + 3 + 3) (slots + 261 + 261) Q (F0 m 28 ls [.int f]) := by
    intro f ls hl
    refine lv_istore_n (lv' := [(3, .int f), (2, .ref qb), (1, .ref qa), (0, .ref b)]) hx hb dL_law_28 rfl hl (by decide) rfl (fun ls hl => ?_)
    refine lv_aload_n hx hb dL_law_29 rfl (lv_at hl 1 rfl) ?_
    refine lv_iload_n hx hb dL_law_30 rfl (lv_at hl 0 rfl) ?_
    refine sk_W_told hE hl.1 hS hdf dL_law_31 hR5 (Nat.le_of_ble_eq_true rfl) ⟨by omega, by omega⟩ (fun H locs hz hk hS => ?_)
    have hdx := hdx.all hk
    have hdf := hdf.all hk
    have e0 : ∀ v, nI (sk_tv sk_zero v) = 0 := fun v => by rw [sk_zero_tv]; rfl
    refine lv_if_ne (tgt := 47) hx hb dL_law_34 (by decide) (fun z => absurd (e0 _) z) (fun _ => ?_)
    refine lv_aload_n hx hb dL_law_37 rfl (lv_at hl 1 rfl) ?_
    refine lv_iload_n hx hb dL_law_38 rfl (lv_at hl 0 rfl) ?_
    refine lv_iconst (v := (-1)) hx hb dL_law_39 (by decide) ?_
    refine lv_ixor hx hb dL_law_40 ?_
    refine sk_W_told hE hl.1 hS hdf dL_law_41 hR5 (Nat.le_of_ble_eq_true rfl) ⟨by omega, by omega⟩ (fun H locs hz hk hS => ?_)
    have hdx := hdx.all hk
    have hdf := hdf.all hk
    refine lv_if_eq (tgt := 49) hx hb dL_law_44 (by decide) (fun _ => ?_) (fun z => absurd (e0 _) z)
    refine lv_iconst (v := 1) hx hb dL_law_49 (by decide) ?_
    refine lv_istore (lv' := [(4, .int 1), (3, .int f), (2, .ref qb), (1, .ref qa), (0, .ref b)]) hx hb dL_law_50 hl (by decide) rfl (fun ls hl => ?_)
    refine sk_law_1 hE hR5 hlo_df (Nat.le_refl _) ⟨by omega, by omega⟩ ?_ 17 0 (by decide) (by decide) (cells + 3 + 3 + 1 + 1) (slots + 261 + 261 + 1 + 1) 0 H locs ls (by omega) (by omega) hdx hdf (by decide) hS (lv_sub hl [0, 4, 3, 2, 1] rfl)
    intro cells1 slots1 H locs ls hc3 hc4 hdx hS hl
    have K2 : ∀ (ls : Array Slot), lv_has ls 9 [(0, .ref b), (1, .ref qa), (2, .ref qb), (3, .int f)] → W p l e R s m args below meth c H locs cells1 slots1 Q (F0 m 108 ls [.int (nI L)]) := by
      intro ls hl
      refine lv_istore (lv' := [(4, .int (nI L)), (0, .ref b), (1, .ref qa), (2, .ref qb), (3, .int f)]) hx hb dL_law_108 hl (by decide) rfl (fun ls hl => ?_)
      refine lv_iconst (v := 0) hx hb dL_law_110 (by decide) ?_
      refine lv_istore (lv' := [(5, .int 0), (4, .int (nI L)), (0, .ref b), (1, .ref qa), (2, .ref qb), (3, .int f)]) hx hb dL_law_111 hl (by decide) rfl (fun ls hl => ?_)
      refine sk_law_2 hE hR5 hlo_dx ⟨by omega, by omega⟩ ?_ (L + 1) 0 (Nat.zero_le L) (by omega) cells1 slots1 H locs sk_zero 0 ls (by omega) (by omega) (Nat.zero_le _) hdx (sk_lo_0 _ _) hS (lv_sub hl [0, 1, 2, 3] rfl)
      intro cells2 slots2 H locs g n2 ls hc5 hc6 hdx hlo hS hl
      refine lv_iconst (v := 0) hx hb dL_law_192 (by decide) ?_
      refine lv_istore (lv' := [(5, .int 0), (4, .int (nI L)), (0, .ref b), (1, .ref qa)]) hx hb dL_law_193 hl (by decide) rfl (fun ls hl => ?_)
      refine sk_law_3 hE hR5 hlo_dx hlo ⟨by omega, by omega⟩ ?_ (L + 1) 0 (Nat.zero_le L) (by omega) cells2 slots2 H locs ls (by omega) (by omega) hdx hS (lv_sub hl [0, 1, 2, 3] rfl)
      intro cells3 slots3 H locs ls hc7 hc8 hS hl
      refine lv_aload_n hx hb dL_law_309 rfl (lv_at hl 0 rfl) ?_
      have hE1 : sk_E tc ad (fun q => H.size ≤ q) s H := (hEc.kept hS.2.1).narrow fun q z => Nat.le_trans hS.1 z
      have hT1 : va_T .int b L (fun j => .int (xs j)) (fun q => H.size ≤ q) s H := (hT.kept hS.2.1).narrow fun q z => Nat.le_trans hS.1 z
      refine va_calli (va_runS (As := [.ref b]) (rest := []) ⟨hx, hb, hml, hown, hts⟩ (sk_c_apart l dC dI tc ad H.size b L xs hL) (va_cwS 1 hts (lw_S q215 q216 q1 q217) rfl rfl rfl (by decide +kernel) ⟨hR.1, by have := hR.2; show 134 ≤ _; omega⟩) ⟨fun a U g mk q => ⟨q.1, q.2.1, va_K.moved (u := U) (U := U.calling g mk a) (Vm.Alike.refl U.vm) q.2.2.1, q.2.2.2.1.moved (u := U) (U := U.calling g mk a) (Vm.Alike.refl U.vm), va_T.moved (u := U) (U := U.calling g mk a) (Vm.Alike.refl U.vm) q.2.2.2.2⟩, fun U hU hW => ⟨rfl, by rw [hU], va_K.moved hW.alike hK, by (try dsimp only); rw [hU]; exact hE1.moved hW.alike, by (try dsimp only); rw [hU]; exact va_T.moved hW.alike hT1⟩⟩ rfl rfl hl.1 rfl (lv_room (Nat.le_of_ble_eq_true rfl)) dL_law_310 ⟨by omega, by omega⟩) hS (fun q _ z => Nat.le_trans hS.1 z) (fun q z => Nat.le_trans hS.1 z) (fun r _ t_ H locs ht hvm hw hB hz1 hk1 hS => ?_)
      obtain rfl : r = (1 : Int32) := hw
      refine lv_if_eq (tgt := 327) hx hb dL_law_313 (by decide) (fun z => absurd z (by decide)) (fun _ => ?_)
      refine lv_aload_n hx hb dL_law_316 rfl (lv_at hl 0 rfl) ?_
      have hE1 : sk_E tc ad (fun q => H.size ≤ q) s H := (hEc.kept hS.2.1).narrow fun q z => Nat.le_trans hS.1 z
      have hT1 : va_T .int b L (fun j => .int (xs j)) (fun q => H.size ≤ q) s H := (hT.kept hS.2.1).narrow fun q z => Nat.le_trans hS.1 z
      refine va_calli (va_runS (As := [.ref b]) (rest := []) ⟨hx, hb, hml, hown, hts⟩ (sk_c_asked l dC dI tc ad H.size b L xs hL) (va_cwS 1 hts (lw_S q221 q222 q1 q223) rfl rfl rfl (by decide +kernel) ⟨hR.1, by have := hR.2; show 135 ≤ _; omega⟩) ⟨fun a U g mk q => ⟨q.1, q.2.1, va_K.moved (u := U) (U := U.calling g mk a) (Vm.Alike.refl U.vm) q.2.2.1, q.2.2.2.1.moved (u := U) (U := U.calling g mk a) (Vm.Alike.refl U.vm), va_T.moved (u := U) (U := U.calling g mk a) (Vm.Alike.refl U.vm) q.2.2.2.2⟩, fun U hU hW => ⟨rfl, by rw [hU], va_K.moved hW.alike hK, by (try dsimp only); rw [hU]; exact hE1.moved hW.alike, by (try dsimp only); rw [hU]; exact va_T.moved hW.alike hT1⟩⟩ rfl rfl hl.1 rfl (lv_room (Nat.le_of_ble_eq_true rfl)) dL_law_317 ⟨by omega, by omega⟩) hS (fun q _ z => Nat.le_trans hS.1 z) (fun q z => Nat.le_trans hS.1 z) (fun r _ t_ H locs ht hvm hw hB hz1 hk1 hS => ?_)
      obtain rfl : r = (1 : Int32) := hw
      refine lv_if_eq (tgt := 327) hx hb dL_law_320 (by decide) (fun z => absurd z (by decide)) (fun _ => ?_)
      refine lv_iconst (v := 1) hx hb dL_law_323 (by decide) ?_
      refine lv_goto (tgt := 328) hx hb dL_law_324 (by decide) ?_
      exact kk (cells3 + 9000 + 4000) (slots3 + 9000 + 4000) H locs ls (by omega) (by omega) hS
    refine lv_aload_n hx hb dL_law_94 rfl (lv_at hl 0 rfl) ?_
    refine va_tlen (v := nI L) hx hb hT hS rfl dL_law_95 ?_
    refine lv_bipush (v := 64) hx hb dL_law_96 (by decide) ?_
    refine lv_icmp_ge (tgt := 106) hx hb dL_law_98 (by decide) (fun hc9 => ?_) (fun hc9 => ?_)
    · have e64 : L = 64 := by
        rcases Nat.lt_or_ge L 64 with z | z
        · exact absurd hc9 (nI_ge (b := 64) z (by decide))
        · omega
      have e64b : (64 : Int32) = nI L := by rw [e64]; rfl
      refine lv_bipush (v := 64) hx hb dL_law_106 (by decide) ?_
      rw [e64b]
      exact K2 ls hl
    · refine lv_aload_n hx hb dL_law_101 rfl (lv_at hl 0 rfl) ?_
      refine va_tlen (v := nI L) hx hb hT hS rfl dL_law_102 ?_
      refine lv_goto (tgt := 108) hx hb dL_law_103 (by decide) ?_
      exact K2 ls hl
  refine lv_aload_n hx hb dL_law_16 rfl (lv_at hl 2 rfl) ?_
  refine va_tlen (v := nI L) hx hb hT hS rfl dL_law_17 ?_
  refine lv_if_le (tgt := 27) hx hb dL_law_18 (by decide) (fun hc9 => ?_) (fun hc9 => ?_)
  · refine lv_iconst (v := 0) hx hb dL_law_27 (by decide) ?_
    exact K 0 ls hl
  · have hL0 : 0 < L := Nat.pos_of_ne_zero (fun z => hc9 (by rw [z]; decide))
    refine lv_aload_n hx hb dL_law_21 rfl (lv_at hl 2 rfl) ?_
    refine lv_iconst (v := 0) hx hb dL_law_22 (by decide) ?_
    refine va_ti (v := .int (xs 0)) hx hb hT hS (vp_in_nI hL0 (by omega)) (by rw [sb_cl0]) dL_law_23 ?_
    refine lv_goto (tgt := 28) hx hb dL_law_24 (by decide) ?_
    exact K (xs 0) ls hl
end SKZ
end
section
/-! THE CLAIM OUT OF ONE WALK OF THE LAW'S BODY. Your part is whole_start (and what it stands on); all else here is the same for every law, but numbers. -/
def R_law : String := "SketchDeskLaw"
def lw_P (b : Addr) (xs : List Int32) (args : Array Value) (s : State) : Prop := args = #[.ref b] ∧ s.IntsAt b xs ∧ xs.length ≤ 64 ∧ (Jvm.Cond.and given_1 narrow_1).before args s = true
def lw_Q (_ : Array Value) (s : State) (o : Outcome) (t : State) : Prop := o = .returned (some (.int 1)) ∧ Framed s o t [] 1200128 5501098
def lw_Z (below : List Frame) (a : Array Value) (s : State) : State → Prop := fun t => ∃ o, t.status = .running ∧ Ended t below o ∧ lw_Q a s o t
/-- the law's own end, with 1 on the stack, nothing written that was there before, its room as the claim has it -/
theorem lw_ret {p : Program} {l : Launch} {e : Env} {s : State} {m : MethodId} {below : List Frame} {meth : Method} {c : Code} {b : Nat} (hx : p.tables.exec = Jvm.exec) (hb : c.code = code) (hr : meth.sig.returnType = ret) (hlocks : meth.locks = false) {pc : Nat} {H : Heap} {ls : Array Slot} (hdg : decode code pc = .ok (.ireturn, 1)) : W p l e room_1 s m #[Value.ref b] below meth c H [] 1200128 5501098 (lw_Z below #[Value.ref b] s) (F0 m pc ls [.int 1]) := by
  intro T hT X
  obtain ⟨fs, hret, hrun, hended, hW, hframe⟩ := X.leave (v := some (.int 1)) (hlocks := hlocks) (fun h => by rw [hr] at h; cases h)
  have hmeth' : T.vm.method? m = some meth := X.method'
  refine ⟨T.setFrames fs, ?_, .returned (some (.int 1)), hrun, hended, rfl, ⟨_, rfl⟩, hW, hframe⟩
  jvm_step X.here [X.here.top, hx, hb, hdg, hmeth', hr, ret, narrow_b1]
  (try refine ⟨rfl, ?_⟩); (try refine ⟨rfl, ?_⟩)
  first | (intro acts; rw [hret _ acts rfl rfl rfl]) | rw [hret _ _ rfl rfl rfl]
  exact Steps.refl _
/-- what holds at the law's entry: the machine, the code, the tables' words (any of lw_tbl by 'hts w (by decide +kernel)'), the script of L ints xs at the cell b, what the Statement gives of the start (any of its parts by flat_of_before) -/
def lw_At (p : Program) (s : State) (m : MethodId) (meth : Method) (c : Code) (b L : Nat) (xs : Nat → Int32) : Prop :=
  p.tables.exec = Jvm.exec ∧ c.code = code ∧ meth.sig.returnType = ret ∧ c.maxLocals = 9 ∧ s.vm.findClass R_law = some m.cls ∧ (∀ w ∈ lw_tbl, w.before #[Value.ref b] s = true) ∧ va_X b L xs s s.heap ∧ b < s.heap.size ∧ meth.locks = false ∧ (Jvm.Cond.and given_1 narrow_1).before #[Value.ref b] s = true
set_option maxHeartbeats 4000000 in
set_option maxRecDepth 100000 in
/-- THE LAW, from its entry -/
theorem whole_start {p : Program} {e : Env} {s : State} {m : MethodId} {below : List Frame} {meth : Method} {c : Code} (l : Launch) (hflags : l.flags = flags0) {b L : Nat} {xs : Nat → Int32} (hL : L ≤ 64) (C0 : lw_At p s m meth c b L xs) : W p l e room_1 s m #[Value.ref b] below meth c s.heap [] 0 0 (lw_Z below #[Value.ref b] s) (entryFrame m ([Value.ref b] : List Value).toArray 9) := by
  obtain ⟨hx, hb, hr, hml, hown, hts0, hX, hbl, hlocks, hgv⟩ := id C0
  have hts : ∀ w ∈ lw_all, w.before #[Value.ref b] s = true := fun w h => hts0 w (lw_all_tbl h)
  have hfl := flat_of_before _ hgv
  have hA : ∀ a : Nat, a < s.heap.size → ¬ s.heap.size ≤ a := fun a h => Nat.not_le.mpr h
  obtain ⟨c0, iS0, hKn0⟩ := u_known (C := RX1) (T := TX1) (N := 1) (n := 1) hts0 (fun w h => lw_all_tbl (in_X1 w h)) (hts _ q15)
  obtain ⟨c1, iS1, hKn1⟩ := u_known (C := RX2) (T := TX2) (N := 4) (n := 4) hts0 (fun w h => lw_all_tbl (in_X2 w h)) (hts _ q23)
  obtain ⟨c2, iS2, hKn2⟩ := u_known (C := RJ6) (T := TJ6) (N := 1) (n := 1) hts0 (fun w h => lw_all_tbl (in_J6 w h)) (hts _ q147)
  obtain ⟨dC, dI, hKc⟩ : ∃ (dC : Nat → ClassId) (dI : Nat → Nat → Nat), ∀ (k : Nat) (q : vw_C), skCl[k]? = some q → u_Kn s q.1 q.2.1 q.2.2 (dC k) (dI k) := by
    refine ⟨fun k => if k = 0 then c0 else if k = 1 then c1 else c2, fun k => if k = 0 then iS0 else if k = 1 then iS1 else iS2, ?_⟩
    intro k q hq
    match k, hq with
    | 0, hq => cases hq; exact hKn0
    | 1, hq => cases hq; exact hKn1
    | 2, hq => cases hq; exact hKn2
    | k + 3, hq => simp [skCl] at hq
  have hK : va_K (dC, dI) skCl [] s := ⟨hKc, fun k q h => by simp at h⟩
  have hlen : (Term.length (.static "java/lang/Integer$IntegerCache" "cache" "[Ljava/lang/Integer;")).eval #[Value.ref b] s none [] s = some (.int (Int32.ofNat 256)) := va_eqt (hfl (Cond.eq (.length (.static "java/lang/Integer$IntegerCache" "cache" "[Ljava/lang/Integer;")) (.int 256)) (by decide +kernel))
  obtain ⟨ad, hB, hel⟩ := vb_Cof (A := fun q => s.heap.size ≤ q) (st := .static "java/lang/Integer$IntegerCache" "cache" "[Ljava/lang/Integer;") rfl hlen (hfl _ (by decide +kernel)) hA
  obtain ⟨tc, htc, hTc⟩ := va_Tof (A := fun q => s.heap.size ≤ q) (ty := .object "java/lang/Integer") (N := 256) (f := fun j => .ref (ad j)) (by decide) (hfl (Cond.arrayOf (.static "java/lang/Integer$IntegerCache" "cache" "[Ljava/lang/Integer;") (.object "java/lang/Integer")) (by decide +kernel)) hlen hel hA
  have hZ1 : va_Z "java/lang/Integer$IntegerCache" "high" "I" (.int 127) (fun q => s.heap.size ≤ q) s s.heap := va_Zof (hts0 _ q143) (hts _ q12) (va_eqi (hfl (Cond.eq (.static "java/lang/Integer$IntegerCache" "high" "I") (.int 127)) (by decide +kernel))) hA
  have hZ2 : va_Z "java/lang/Integer$IntegerCache" "cache" "[Ljava/lang/Integer;" (.ref tc) (fun q => s.heap.size ≤ q) s s.heap := va_Zof (hts0 _ q145) (hts _ q12) htc hA
  have hT : va_T .int b L (fun j => .int (xs j)) (fun q => s.heap.size ≤ q) s s.heap := by
    obtain ⟨scr, h1, h2, h3, h4, h5⟩ := hX
    exact ⟨scr, h1, h2, h3, Nat.le_of_eq h4.symm, (by rw [h4]), h5, Nat.not_le.mpr hbl⟩
  have hE : sk_En p s m #[Value.ref b] c cL_law 9 dC dI tc ad b L xs := ⟨⟨hx, hb, hml, hown, hts⟩, hK, ⟨hZ1, hZ2, hTc, hB⟩, hT, hL⟩
  have hl := lv_entry ([.ref b]) (n := 9) (Nat.le_of_ble_eq_true rfl)
  rw [lg_entry_eq]
  generalize (lg_sl ([.ref b]) ++ List.replicate (9 - (lg_sl ([.ref b])).length) Slot.unset).toArray = ls at hl ⊢
  have hl : lv_has ls 9 [(0, .ref b)] := hl
  refine sk_law_body hE ⟨Nat.le_of_ble_eq_true rfl, Nat.le_of_ble_eq_true rfl⟩ ⟨Nat.le_of_ble_eq_true rfl, Nat.le_of_ble_eq_true rfl⟩ rfl rfl va_S.rf hl ?_
  intro cells slots H locs ls hc1 hc2 hS
  refine va_forget hS.2.2 ?_
  refine W.widen (k := 1200128) (n := 5501098) (Nat.le_trans hc1 (Nat.le_of_ble_eq_true rfl)) (Nat.le_trans hc2 (Nat.le_of_ble_eq_true rfl)) ?_
  exact lw_ret hx hb hr hlocks dL_law_328
-- ===== YOUR PART ENDS =====
set_option maxHeartbeats 4000000 in
theorem lw_walk (l : Launch) (hflags : l.flags = flags0) (b : Addr) (xs : List Int32) : MetFree l x (headSpec (Jvm.Cond.code x code maxLocals ret :: tables_1) room_1) (lw_P b xs) (fun _ _ _ _ _ => True) lw_Q := by
  refine MetFree.of_bodyS (code := code) (maxLocals := maxLocals) (ret := ret) (by decide) ?_ ?_
  · intro args s m h hn
    obtain ⟨meth, c, h1, h2, h3, h4, h5, h6, -, -⟩ := Cond.code_spec hn (atoms_spec (ws := Jvm.Cond.code x code maxLocals ret :: tables_1) h _ List.mem_cons_self)
    exact ⟨meth, c, h1, h2, h3, h4, h5, h6⟩
  · intro p e s m args below meth c s₁ B hml0 hP _
    obtain ⟨rfl, hx, hbd, hgv⟩ := hP
    obtain ⟨scr, harrAt, hlist, hof, hsmall⟩ := hx
    obtain ⟨hcb, hkn, -, -⟩ := State.arrayAt?_spec harrAt
    have hown : s.vm.findClass R_law = some m.cls := findClass_of_methodNamed B.named
    have hts0 : ∀ c ∈ (Jvm.Cond.code x code maxLocals ret :: tables_1), c.before #[Value.ref b] s = true := atoms_spec (ws := Jvm.Cond.code x code maxLocals ret :: tables_1) B.pre
    have hts : ∀ w ∈ lw_tbl, w.before #[Value.ref b] s = true := k2_hts_sels lw_privs (fun w hw => hts0 w (List.mem_cons_of_mem _ hw)) lw_privs_ok
    have hml : c.maxLocals = 9 := B.maxLocals_eq (hts0 _ List.mem_cons_self)
    have X₀ : Stand p l e room_1 s m #[Value.ref b] below meth c s₁ [] 0 0 := Stand.of_body B
    have hh0 : s₁.heap = s.heap := by rw [B.state]; rfl
    have hsz : scr.slots.size = xs.length := by rw [← Array.length_toList, hlist, List.length_map]
    have hval : ∀ j : Nat, j < xs.length → scr.slots[j]? = some (.int (xs.getD j 0)) := fun j hj => by
      rw [← Array.getElem?_toList, hlist]
      simp [hj]
    have hbl : b < s.heap.size := (Array.getElem?_eq_some_iff.mp hcb).1
    have hX : va_X b xs.length (fun j => xs.getD j 0) s s.heap := ⟨scr, hcb, hof, hkn, hsz, hval⟩
    have K : W p l e room_1 s m #[Value.ref b] below meth c s₁.heap [] 0 0 (lw_Z below #[Value.ref b] s) (entryFrame m ([Value.ref b] : List Value).toArray 9) := by
      rw [hh0]
      exact whole_start l hflags hbd ⟨B.exec, B.bytes, B.returns, hml, hown, hts, hX, hbl, B.notSynchronized, hgv⟩
    obtain ⟨t, a1, o, b1, b2, b3⟩ := K s₁ rfl X₀
    exact ⟨t, o, a1, b1, b2, b3⟩
theorem lw_pre_spec {args : Array Value} {s : State} (h : (Jvm.Cond.and given_1 narrow_1).before args s = true) (hr : rest_1_c.before args s = true) : ∃ (b : Addr) (xs : List Int32), lw_P b xs args s := by
  have hs := flat_of_before _ h
  have hq := flat_of_before _ hr
  have hc : (Cond.count 1).before args s = true := hs _ (by decide +kernel)
  have harr : (Cond.arrayOf (.arg 0) .int).before args s = true := hs _ (by decide +kernel)
  have hle : (Cond.le (.length (.arg 0)) (.int 64)).before args s = true := hs _ (by decide +kernel)
  have hlen : (Cond.isInt (.length (.arg 0))).before args s = true := hq _ (by decide +kernel)
  have hall : (Cond.all (.arg 0) (.isInt (.elem (.arg 0) (.index 0)))).before args s = true := hq _ (by decide +kernel)
  obtain ⟨b, xs, hb, hx⟩ := State.ints_of_pre rfl harr hlen hall
  have hsm : xs.length < 2 ^ 31 := hx.choose_spec.2.2.2
  have hev : (Term.length (.arg 0)).eval args s none [] s = some (.int xs.length.toInt32) := hx.length_eval hb
  have hv := Cond.le_ints hev (show (Term.int 64).eval args s none [] s = some (.int 64) from rfl)
  have hd : xs.length.toInt32 ≤ 64 := by
    simpa [Cond.before, Cond.holds, hv] using hle
  have hN : xs.length ≤ 64 := (Int32.ofNat_le_ofNat hsm (by decide)).mp (show Int32.ofNat xs.length ≤ Int32.ofNat 64 from hd)
  exact ⟨b, xs, Cond.one_arg hc (show args[0]? = some (.ref b) from hb), hx, hN, h⟩
theorem lw_comes (l : Launch) (hflags : l.flags = flags0) : Comes l x (Jvm.Cond.code x code maxLocals ret :: tables_1) room_1 (fun tb e args s => Calls_1 tb e args s ∧ rest_1 tb e args s ∧ Pre_1 tb e args s)
    (fun _ _ args s o t => lw_Q args s o t) := by
  intro p e ha hc hk s m args below hf hfit hheap happ hpre
  obtain ⟨b, xs, hP⟩ := lw_pre_spec hpre.2.2 hpre.2.1
  obtain ⟨k, o, h1, h2, h3, hQ⟩ := lw_walk l hflags b xs p e ha hc hk s m args below hf ((Spec.applies_iff_loose hf).mp happ).1 hP trivial
  exact ⟨k, o, h1, h2, h3, hQ⟩
theorem lw_frame {s t : State} {o : Outcome} {args : Array Value} (h : Framed s o t [] 1200128 5501098) :
    Framed s o t (fieldLocs frame_1_writes args s ++ arrayLocs frame_1_arrays args s ++ staticLocs frame_1_statics s) 1200128 5501098 := h
theorem lw_limb (L : Cond) (hL : ∀ (args : Array Value) (s t : State), L.after args s (.returned (some (.int 1))) t = true) :
    ArmFor flags0 classFile x code maxLocals ret World_1 tables_1 room_1 Calls_1 rest_1 Pre_1
      (fun tb e a s o t => postC L tb e a s o t ∧ Framed s o t (fieldLocs frame_1_writes a s ++ arrayLocs frame_1_arrays a s ++ staticLocs frame_1_statics s) 1200128 5501098) := by
  intro l hflags _ _ p e ha hc hk s m args below hf hfit hheap happ hpre
  obtain ⟨k, o, h1, h2, h3, rfl, hF⟩ := lw_comes l hflags p e ha hc hk s m args below hf hfit hheap happ hpre
  exact ⟨k, _, h1, h2, h3, hL args s _, lw_frame hF⟩
theorem i_vc : Claimed_1_1 ∧ Claimed_1_2 := ⟨lw_limb limb_1_1 (fun args s t => by simp [limb_1_1, Cond.after, Cond.holds, Cond.value]), lw_limb limb_1_2 (fun args s t => Cond.after_iff.mpr (by
  first | (rw [show limb_1_2 = Cond.eq .result (.int 1) from rfl, Cond.eq_ints (x := 1) (y := 1) rfl rfl]; simp; done) | (simp [limb_1_2, Cond.value, Term.eval]; done)))⟩
end
